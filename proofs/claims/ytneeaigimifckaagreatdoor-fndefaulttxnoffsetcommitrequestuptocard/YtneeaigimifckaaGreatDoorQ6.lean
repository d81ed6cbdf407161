/- Part of a verified symbolic run of the program's code (no condition of its own). -/
import Derived.Test.YtneeaigimifckaaGreatDoorQ5
import Derived.Shelf.Bin.BEUint64
import Derived.Shelf.Bin.BEUint32
set_option linter.unusedVariables false
set_option linter.unusedSimpArgs false
noncomputable section
namespace Go.Mx
open Go Go.Dx Go.RowKit
def deC:DE:=.f .app [.v 2,.f .mklist [.f .mkrow [.v 0,.f .app [.k .nil,.v 1]]]]
def osC:List Ob:=[.room deC 32,.room (.f .app [.k .nil,.v 1]) 1]
def tgD(x:Int×D):D:=.row [.int x.1,D.appd .nil x.2]
def accD(l:List (Int×D)):D:=D.appd .nil (.list (l.map tgD))
theorem yXK(l:List (Int×D))(x:Int×D):(accD l).appd (.list [tgD x])=accD (l++[x]):=by
 cases l with
 | nil=>rfl
 | cons a l=>simp[accD,D.appd]
theorem accD_len(l:List (Int×D)):(accD l).len=l.length:=by
 cases l with
 | nil=>rfl
 | cons a l=>simp[accD,D.appd,D.len]
theorem zGK{val:Option (List UInt8)}:(D.appd .nil (encB val)).len=(val.getD []).length:=by
 cases val with
 | none=>rfl
 | some s=>cases s <;> rfl
theorem evClo{key:Int}{val:Option (List UInt8)}{l:List (Int×D)}(hl:l.length+1<=100001)(hv:(val.getD []).length<=lim) :
  zCA X side osC [.int key,encB val,accD l]/\deC.eval X [.int key,encB val,accD l]=accD (l++[(key,encB val)]):=by
 have e:deC.eval X [.int key,encB val,accD l]=accD (l++[(key,encB val)]):=by
  simp only[deC,ev_f,zAA,zBA,ev_v,ev_k,gzZ,gsZ,yVA,qTA];exact yXK l (key,encB val)
 refine⟨⟨?_,?_,trivial⟩,e⟩
 ·show (deC.eval X [.int key,encB val,accD l]).len*32<=LIM/\(deC.eval X [.int key,encB val,accD l]).len<=maxLen;rw[e,accD_len,List.length_append,List.length_singleton];exact⟨by simp only[LIM];omega,by simp only[maxLen];omega⟩
 ·show (D.appd .nil (encB val)).len*1<=LIM/\(D.appd .nil (encB val)).len<=maxLen;rw[zGK];exact xBB hv
def EachOk(P:Program)(f g m u:Nat):Prop:=∀(W:World) (b off r n B:Nat) (D:DataW Value) (ks:List Int) (_:∀x,x∈ks↔Maps.has D (.int .u32 x)=true) (_:ks.Pairwise (· < ·)) (M:Nat->Prop) (_:∀x,M x->x<W.heap.size) (_:¬M b)
 (R:World->Nat->World->Prop) (_:∀ws,Below W.heap.size W ws->R ws 0 ws) (_:∀ws k wl,R ws k wl->Fr M ws wl)
 (_:∀ws k wl,Below W.heap.size W ws->k<ks.length->R ws k wl -> ∃vk,(Instr.lookup m (.map (some r)) (.int .u32 (ks.getD k 0)) false).run P wl = .ok vk wl/\Calls P g #[.int .u32 (ks.getD k 0),vk,.pointer (some ⟨B,0,none⟩)] wl fun e w'=>e = .returned (.tuple #[])/\R ws (k+1) w')
 (_:W.cell? ⟨b,off,none⟩=some (.map (some r))) (_:W.ownsMap P u xWI r n D) (_:0<Maps.size D) (_:Maps.size D<=4294967296) (_:b<W.heap.size) (_:B<W.heap.size),
 Calls P f #[.pointer (some ⟨b,off,none⟩),.func (.func g) #[] #[.pointer (some ⟨B,0,none⟩)]] W fun e w'=>e = .returned (.tuple #[]) /\ ∃ws,Below W.heap.size W ws/\R ws ks.length w'
def EachNo(P:Program)(f g m ti:Nat):Prop:=∀(w:World) (b off B:Nat) (q:Option Nat) (_:w.cell? ⟨b,off,none⟩=some (.map q)) (_:(Builtin.len_ #[m] ti #[.map q]).run P w = .ok (goInt 0) w),
 Calls P f #[.pointer (some ⟨b,off,none⟩),.func (.func g) #[] #[.pointer (some ⟨B,0,none⟩)]] w fun e w2=>e = .returned (.tuple #[])/\w2=w
theorem five{cs:Array Value}{v:Value}(hn:cs.size=5)(hv:cs[4]? = some v):∃a0 a1 a2 a3,cs = #[a0,a1,a2,a3,v]:=by
 obtain⟨l⟩:=cs
 match l,hn with
 | [a,b,c,d,e],_ =>
  simp only[List.getElem?_toArray,List.getElem?_cons_succ,List.getElem?_cons_zero,Option.some.injEq] at hv;subst hv;exact⟨a,b,c,d,rfl⟩
theorem own_nil{P:Program}{ok:Nat->Prop}{w:World}{t:TypeId}{v:Value}(h:ySA P ok w t v .nil):v = .slice none 0 0:=by
 obtain⟨e,i,n,xs,_,_,_,h4⟩:=h;cases h4 with
 | nil hv=>exact hv
theorem each_ctr{C:Cfg}{f m u tb tU pt ti:Nat}{gs:List Nat}(hnm:xJA C.P)(hord:C.P.follows .mixedOrders=true)(hctr:∀f c,C.ctr f=some c->qRA C.P X side f c)
  (hbody:∃fn b,C.P.funcs[f]? = some fn/\fn.body=some b) (hum:C.P.underlying m=some (.map u tb)) (hby:isBy C.P tb=true) (hsU:zBC C.P tU=true)
  (hno:∀g,gs.elem g=true->EachNo C.P f g m ti) (hea:∀g,gs.elem g=true->EachOk C.P f g m u) (hrun:∀g,gs.elem g=true->qGI C tb tU g deC osC=true)
  (hl0:∀w,(Builtin.len_ #[m] ti #[.map none]).run C.P w = .ok (goInt 0) w)
  (hl1:∀(w:World) (r clock:Nat) (es:Array MapEntry),w.heap[r]? = some (.map es clock)->(Builtin.len_ #[m] ti #[.map (some r)]).run C.P w = .ok (goInt es.size) w) :
  qRA C.P X side f ⟨[.mcell pt m,.ccell gs 4 tU],.ccell tU,300,true⟩:=by
 obtain⟨eU,iU,huU,hiU⟩:=zLB hsU;refine⟨hbody,fun ok w vs ds hA hok hRd hp=>?_⟩;obtain @⟨⟩ | @⟨_,v1,d1,_,_,_,h1,hA⟩:=hA;obtain @⟨⟩ | @⟨_,v2,d2,_,_,_,h2,hA⟩:=hA;cases hA;cases h2 with
 | ccell hf hh hc hn h2 hne hone =>
 rename_i g B mv ty cs;cases h1 with
 | mcell hc1 h =>
 rename_i b off mv1;obtain⟨hd2,hfew0,hvl⟩:d2 = .nil/\(mapL d1).length<=100000 /\ ∀x∈mapL d1,x.2.len<=lim:=hp rfl;subst hd2;have hmv:=own_nil h2;subst hmv;obtain⟨a0,a1,a2,a3,rfl⟩:=five hn hc;have hcB:w.cell? ⟨B,4,none⟩=some (.slice none 0 0):=by simp[World.cell?,hh]
 have hWr:∀x,Wr w [AK.mcell pt m,.ccell gs 4 tU] [.pointer (some ⟨b,off,none⟩),.func (.func g) #[] #[.pointer (some ⟨B,0,none⟩)]] x↔x=B:=fun x=>by
  constructor
  ·intro hx;simp only[Wr,wrA,or_false,false_or] at hx;obtain⟨a,ha,hx⟩:=hx;simp only[List.getElem?_toArray,List.getElem?_cons_zero,Option.some.injEq,Value.pointer.injEq] at ha;subst ha;rcases hx with hx|⟨v,hv,hx⟩
   ·exact hx
   ·rw[hcB] at hv;cases hv;simp[Value.ownBlock] at hx
  ·rintro rfl;exact .inr (.inl ⟨_,rfl,.inl rfl⟩)
 have hBl:B<w.heap.size:=(Array.getElem?_eq_some_iff.1 hh).1;have hbl:b<w.heap.size:=by
  cases hhb:w.heap[b]? with
  | none=>simp[World.cell?,hhb] at hc1
  | some o=>exact(Array.getElem?_eq_some_iff.1 hhb).1
 have hbB:b≠B:=fun e=>hRd b (.inl (.inl rfl)) ((hWr b).2 e)
 have hokB:∀x,ok x->x<w.heap.size/\x≠B:=fun x hx=>⟨(hok x hx).1,fun e=>(hok x hx).2 ((hWr x).2 e)⟩
 have hres:∀(w':World) (ty2:TypeId) (v:Value),w'.heap[B]? = some (.cells #[a0,a1,a2,a3,v] ty2 (0,0))->(∀r,v.ownBlock=some r->w.heap.size<=r/\r<w'.heap.size) ->
   (∀ok':Nat->Prop,(∀x,ok x->ok' x)->(∀k,w.heap.size<=k->k<w'.heap.size->v.ownBlock≠some k->ok' k)->ySA C.P ok' w' tU v (X 300 [d1,.nil])) ->
   xKB C.P ok w w' ⟨[.mcell pt m,.ccell gs 4 tU],.ccell tU,300,true⟩ [.pointer (some ⟨b,off,none⟩),.func (.func g) #[] #[.pointer (some ⟨B,0,none⟩)]] (.tuple #[]) (X 300 [d1,.nil]):=fun w' ty2 v q1 q2 q3 =>
  ⟨rfl,B,4,ty,ty2,_,v,⟨gs,g,1,rfl,rfl⟩,hh,q1,fun r hr=>⟨.inl (q2 r hr).1,(q2 r hr).2,by have:=(q2 r hr).1;omega⟩,q3⟩
 have hnone:∀q,mv1 = .map q->mapL d1=[]->(Builtin.len_ #[m] ti #[.map q]).run C.P w = .ok (goInt 0) w ->
   Calls C.P f #[.pointer (some ⟨b,off,none⟩),.func (.func g) #[] #[.pointer (some ⟨B,0,none⟩)]] w fun e w'=>∃v,e = .returned v/\Fr (Wr w [AK.mcell pt m,.ccell gs 4 tU] [.pointer (some ⟨b,off,none⟩),.func (.func g) #[] #[.pointer (some ⟨B,0,none⟩)]]) w w' /\
    xKB C.P ok w w' ⟨[.mcell pt m,.ccell gs 4 tU],.ccell tU,300,true⟩ [.pointer (some ⟨b,off,none⟩),.func (.func g) #[] #[.pointer (some ⟨B,0,none⟩)]] v (X 300 [d1,.nil]):=by
  intro q hq hnil hlen;subst hq;refine(hno g hf w b off B q hc1 hlen).mono fun e w' he=>?_
  obtain⟨rfl,rfl⟩:=he;refine⟨_,rfl,Fr.refl _ _,hres w' ty (.slice none 0 0) hh (fun r hr=>by simp[Value.ownBlock] at hr) (fun ok' _ _=>?_)⟩;rw[X_300,hnil];exact ySA.nilv huU hiU
 cases h with
 | nil hu=>exact hnone none rfl rfl (hl0 w)
 | map hu hk hh' hkeys hkw hs hborn hclock hr =>
  rename_i kk ee r clock es dd;have hl:es.size=dd.length:=by
   have:=hkeys.length_eq
   simpa using this
  have hrl:r<w.heap.size:=(Array.getElem?_eq_some_iff.1 hh').1;have hrne:r≠B:=fun e=>hRd r (.inl (.inr hc1)) ((hWr r).2 e)
  by_cases hdd:dd=[]
  ·subst hdd;refine hnone (some r) rfl rfl ?_
   have:=hl1 w r clock es hh'
   rw[hl] at this;exact this
  have ht:TagsAt C.P ok w m (.map (some r)) (.map dd):=.map hu hk hh' hkeys hkw hs hborn hclock hr;obtain⟨_,_,hfew⟩:=xCG ht;obtain⟨DD,hown,hDs,hDk⟩:=xRL ht hum;have hpos:0<dd.length:=by cases dd with|nil=>exact absurd rfl hdd|cons a l=>simp
  have hX:X 300 [.map dd,.nil]=accD dd:=by
   rw[X_300]
   have:(mapL (.map dd)).isEmpty=false:=by cases dd with|nil=>exact absurd rfl hdd|cons a l=>rfl
   rw[this];rfl
  refine((hea g hf w b off r dd.length B DD (dd.map (·.1)) hDk hs (fun x=>x=B) (fun x hx=>hx▸hBl) hbB
   (fun ws k wl=>Fr (fun x=>x=B) ws wl /\ ∃v ty,wl.heap[B]? = some (.cells #[a0,a1,a2,a3,v] ty (0,0))/\v.ownBlock≠some B/\(∀x,v.ownBlock=some x->ws.heap.size<=x/\x<wl.heap.size) /\
    ySA C.P (fun x=>ok x∨(w.heap.size<=x/\x<wl.heap.size/\v.ownBlock≠some x)) wl tU v (accD (dd.take k)))
   ?_ (fun ws k wl h=>h.1) ?_ hc1 hown (by rw[hDs];exact hpos) (by rw[hDs];exact hfew) hbl hBl).mono ?_)
  ·intro ws hws;refine⟨Fr.refl _ _,.slice none 0 0,ty,?_,by simp[Value.ownBlock],fun x hx=>by simp[Value.ownBlock] at hx,?_⟩
   ·rw[hws.block B hBl,hh]
   ·exact ySA.nilv huU hiU
  ·rintro ws k wl hws hk' ⟨hfr,v,ty1,hBc,hvB,hvb,hov⟩;rw[List.length_map] at hk';have hkd:(dd.map (·.1)).getD k 0=(dd[k]).1:=by simp[List.getD_eq_getElem?_getD,hk']
   rw[hkd];have hmem:((dd[k]).1,(dd[k]).2)∈dd:=List.getElem_mem hk';obtain⟨vk,hrep,hlook⟩:=qFI ht hum hmem;have hwl:∀x,x<w.heap.size->x≠B->wl.heap[x]? = w.heap[x]?:=fun x hx hn=>by
    rw[hfr.block x (Nat.lt_of_lt_of_le hx hws.size) hn,hws.block x hx]
   refine⟨vk,hlook wl (hwl r hrl hrne),?_⟩;obtain⟨val,hval⟩:KOk .byts (dd[k]).2:=zAF hby hrep;have hnk:=hkw _ hmem;have htk:dd.take (k+1)=dd.take k++[dd[k]]:=by rw[List.take_succ_eq_append_getElem hk']
   have hdd0:dd.length<=100000:=hfew0;have hvl':(val.getD []).length<=lim:=by have:=hvl _ hmem;rw[hval,yWA] at this;exact this
   have hev:=evClo (key:=(dd[k]).1) (val:=val) (l:=dd.take k) (by rw[List.length_take];omega) hvl';rw[<- hval] at hev;refine(yKK (C:=C) (ok:=fun x=>ok x∨(w.heap.size<=x/\x<wl.heap.size/\v.ownBlock≠some x)) hnm hord hctr (hrun g hf) hBc (fun u hu'=>hone u (by
     simp only[List.mem_cons,List.not_mem_nil,or_false] at hu';simp only[List.mem_toArray,List.mem_cons];rcases hu' with h|h|h|h <;> simp[h])) hov (hrep.mono (fun _ h=>.inl h) (fun x hx=>hwl x (hokB x hx).1 (hokB x hx).2)) hnk (fun x hx=>?_) hvB hev.1).mono ?_
   ·rcases hx with hx|⟨q1,q2,q3⟩
    ·obtain⟨q1,q2⟩:=hokB x hx;have h3:=hws.size;have h4:=hfr.size
     refine⟨by omega,q2,fun e=>?_⟩
     have:=(hvb x e).1
     omega
    ·exact⟨q2,by omega,q3⟩
   ·rintro e w' ⟨rfl,hf2,v',ty',hB',hvB',hvb',ho'⟩;have hsz2:=hf2.size;have hsz1:=hfr.size;have hsz0:=hws.size;refine⟨rfl,⟨hf2.os.trans hfr.os,hf2.tape.trans hfr.tape,hf2.output.trans hfr.output,Nat.le_trans hsz1 hsz2,fun x hx hm=>?_⟩,v',ty',hB',hvB',fun x hx=>?_,?_⟩
    ·rw[hf2.block x (Nat.lt_of_lt_of_le hx hsz1) (fun hm2=>by
      rcases hm2 with h|h
      ·exact hm h
      ·have:=(hvb x h).1;omega),hfr.block x hx hm]
    ·obtain⟨q1,q2⟩:=hvb' x hx;refine⟨?_,q1⟩;rcases q2 with h|h
     ·omega
     ·exact(hvb x h).1
    ·have:=ho' (fun x=>ok x∨(w.heap.size<=x/\x<w'.heap.size/\v'.ownBlock≠some x)) (fun x hx=>by
      rcases hx with hx|⟨q1,q2,q3⟩
      ·exact .inl hx
      ·by_cases hv':v'.ownBlock=some x
       ·have:=(hvb' x hv').2
        rcases this with h|h
        ·omega
        ·exact absurd h q3
       ·exact .inr ⟨q1,by omega,hv'⟩) (fun x hx hxl hn=>.inr ⟨by
       rcases hx with h|h
       ·omega
       ·have:=(hvb x h).1;omega,hxl,hn⟩)
     rw[hev.2] at this;rw[htk];exact this
  ·rintro e w' ⟨rfl,ws,hws,hfr,v,ty1,hBc,hvB,hvb,hov⟩;have hsz1:=hfr.size;have hsz0:=hws.size;refine⟨_,rfl,⟨hfr.os.trans hws.os,hfr.tape.trans hws.tape,hfr.output.trans hws.output,by omega,fun x hx hm=>?_⟩,hres w' ty1 v hBc (fun x hx=>?_) (fun ok' q1 q2=>?_)⟩
   ·have hxB:x≠B:=fun e=>hm ((hWr x).2 e)
    rw[hfr.block x (by omega) hxB,hws.block x hx]
   ·have:=hvb x hx;omega
   ·rw[hX];rw[List.length_map,List.take_length] at hov;exact hov.mono (fun x hx=>by
     rcases hx with hx|⟨p1,p2,p3⟩
     ·exact q1 x hx
     ·exact q2 x p1 p2 p3) (fun _ _=>rfl) (fun _ _=>rfl)
end Go.Mx
namespace Go.Mx
open Go Go.Dx
def sp67:DE:=.f (.get 0) [.f (.ext 71) [.v 0,.k (.int 16)]]
def cE67(j:Nat):DE:=.f .ite [.f .ltI [.k (.int j),.f .len [sp67]],.f (.get 0) [.f .at [sp67,.k (.int j)]],.k (.int 0)]
def deR67:DE:=.f .mkrow [.f .mkrow ((List.range 16).map cE67),.f (.get 1) [.f (.ext 71) [.v 0,.k (.int 16)]],.k (.bool false)]
def obR67:List Ob:=[.pre 71 [.v 0,.k (.int 16)]]
theorem evR67(ds:List D)(hk:KsOk [.byts] ds)(h:side 67 ds):zCA X side obR67 ds/\deR67.eval X ds=X 67 ds:=by
 obtain⟨s,rfl⟩:=ks1 hk;rw[side_67] at h;obtain⟨b,rfl,hl⟩:=h;have e71:(DE.f (.ext 71) [.v 0,.k (.int 16)]).eval X [.bytes b]=rowR (.bytes (b.take 16)) (b.drop 16):=by
  rw[ev_f,zAA,zAA,zBA,ev_v,ev_k,gzZ,zOA,X_71,yEA];rfl
 have esp:sp67.eval X [.bytes b] = .bytes (b.take 16):=by
  unfold sp67;rw[ev_f,zAA,zBA,e71,xOB]
 have hlen:(b.take 16).length=16:=by rw[List.length_take];omega
 have ec:∀j:Nat,j<16->(cE67 j).eval X [.bytes b] = .int ((b.take 16).getD j 0).toNat:=fun j hj=>by
  unfold cE67;have hg:(b.take 16)[((j:Nat):Int).toNat]? = some ((b.take 16).getD j 0):=by
   rw[Int.toNat_natCast,List.getElem?_eq_getElem (by omega),List.getD_eq_getElem?_getD,List.getElem?_eq_getElem (by omega)];rfl
  rw[ev_f,zAA,zAA,zAA,zBA,ev_f,zAA,zAA,zBA,ev_k,ev_f,zAA,zBA,esp,yAA,zNC,hlen,zDK (by omega),qUK,ev_f,zAA,zBA,ev_f,zAA,zAA,zBA,esp,ev_k,getB _ _ _ hg]
 refine⟨⟨?_,trivial⟩,?_⟩
 ·simp only[Ob.holds];exact⟨b,rfl,by show (0:Int)<=16;decide,by show (16:Nat)<=b.length;omega⟩
 ·unfold deR67;rw[ev_f,zAA,zAA,zAA,zBA,ev_k,ev_f,ev_f,zAA,zBA,e71,xPB,qTA (zDA _ _ _),xTA,X_67,yEA]
  congr 2
  rw[qWA];apply List.ext_getElem?;intro j;rw[List.getElem?_map,List.getElem?_map];by_cases hj:j<16
  ·rw[List.getElem?_range hj,List.getElem?_eq_getElem (by omega:j<(b.take 16).length),Option.map_some,Option.map_some,ec j hj,List.getD_eq_getElem?_getD,List.getElem?_eq_getElem (by omega:j<(b.take 16).length)];rfl
  ·rw[List.getElem?_eq_none (by simp;omega),List.getElem?_eq_none (by omega)];rfl
end Go.Mx
namespace Go.Mx
open Go Go.Dx
def deK2:Nat->DE
 | 61=>deR61
 | 62=>deR62
 | 63=>deR63
 | 65=>deR65
 | 66=>deR66
 | 67=>deR67
 | 69=>deR69
 | 70=>deR70
 | 71=>deR71
 | 72=>deR72
 | 73=>deR73
 | 74=>deR74
 | 75=>deR75
 | 80=>deR80
 | 81=>deR81
 | 82=>deR82
 | _=>.k .nil
def obK2:Nat->List Ob
 | 61=>obR61
 | 62=>obR62
 | 63=>obR63
 | 65=>obR65
 | 66=>obR66
 | 67=>obR67
 | 69=>obR69
 | 70=>obR70
 | 71=>obR71
 | 72=>obR72
 | 73=>obR73
 | 74=>obR74
 | 75=>obR75
 | 80=>obR80
 | 81=>obR81
 | 82=>obR82
 | _=>[]
def sig2:Nat->List K
 | 71=>[.byts,.int .i64]
 | _=>[.byts]
def yFL:Nat->Nat
 | 65=>1
 | 66=>2
 | 67=>1
 | 69=>1
 | 72=>1
 | 73=>1
 | 74=>1
 | 75=>1
 | 80=>2
 | 81=>1
 | 82=>1
 | _=>0
def known2?:Nat->Bool
 | 61=>true
 | 62=>true
 | 63=>true
 | 65=>true
 | 66=>true
 | 67=>true
 | 69=>true
 | 70=>true
 | 71=>true
 | 72=>true
 | 73=>true
 | 74=>true
 | 75=>true
 | 80=>true
 | 81=>true
 | 82=>true
 | _=>false
theorem evB61(ds:List D)(hk:KsOk (sig2 61) ds)(h:side 61 ds):zCA X side (obK2 61) ds/\(deK2 61).eval X ds=X 61 ds/\(X 61 ds).cells.getD 2 .nil = .bool false:=by
 have e:=evR61 ds hk h;refine⟨e.1,e.2,?_⟩;obtain⟨s,rfl⟩:=ks1 hk;rfl
theorem evB62(ds:List D)(hk:KsOk (sig2 62) ds)(h:side 62 ds):zCA X side (obK2 62) ds/\(deK2 62).eval X ds=X 62 ds/\(X 62 ds).cells.getD 2 .nil = .bool false:=by
 have e:=evR62 ds hk h;refine⟨e.1,e.2,?_⟩;obtain⟨s,rfl⟩:=ks1 hk;rfl
theorem evB63(ds:List D)(hk:KsOk (sig2 63) ds)(h:side 63 ds):zCA X side (obK2 63) ds/\(deK2 63).eval X ds=X 63 ds/\(X 63 ds).cells.getD 2 .nil = .bool false:=by
 have e:=evR63 ds hk h;refine⟨e.1,e.2,?_⟩;obtain⟨s,rfl⟩:=ks1 hk;rfl
theorem evB65(ds:List D)(hk:KsOk (sig2 65) ds)(h:side 65 ds):zCA X side (obK2 65) ds/\(deK2 65).eval X ds=X 65 ds/\(X 65 ds).cells.getD 2 .nil = .bool false:=by
 have e:=evR65 ds hk h;refine⟨e.1,e.2,?_⟩;obtain⟨s,rfl⟩:=ks1 hk;rfl
theorem evB66(ds:List D)(hk:KsOk (sig2 66) ds)(h:side 66 ds):zCA X side (obK2 66) ds/\(deK2 66).eval X ds=X 66 ds/\(X 66 ds).cells.getD 2 .nil = .bool false:=by
 have e:=evR66 ds hk h;refine⟨e.1,e.2,?_⟩;obtain⟨s,rfl⟩:=ks1 hk;rfl
theorem evB67(ds:List D)(hk:KsOk (sig2 67) ds)(h:side 67 ds):zCA X side (obK2 67) ds/\(deK2 67).eval X ds=X 67 ds/\(X 67 ds).cells.getD 2 .nil = .bool false:=by
 have e:=evR67 ds hk h;refine⟨e.1,e.2,?_⟩;obtain⟨s,rfl⟩:=ks1 hk;rfl
theorem evB69(ds:List D)(hk:KsOk (sig2 69) ds)(h:side 69 ds):zCA X side (obK2 69) ds/\(deK2 69).eval X ds=X 69 ds/\(X 69 ds).cells.getD 2 .nil = .bool false:=by
 have e:=evR69 ds hk h;refine⟨e.1,e.2,?_⟩;obtain⟨s,rfl⟩:=ks1 hk;rfl
theorem evB70(ds:List D)(hk:KsOk (sig2 70) ds)(h:side 70 ds):zCA X side (obK2 70) ds/\(deK2 70).eval X ds=X 70 ds/\(X 70 ds).cells.getD 2 .nil = .bool false:=by
 have e:=evR70 ds hk h;refine⟨e.1,e.2,?_⟩;obtain⟨s,rfl⟩:=ks1 hk;rfl
theorem evB71(ds:List D)(hk:KsOk (sig2 71) ds)(h:side 71 ds):zCA X side (obK2 71) ds/\(deK2 71).eval X ds=X 71 ds/\(X 71 ds).cells.getD 2 .nil = .bool false:=by
 have e:=evR71 ds hk h;refine⟨e.1,e.2,?_⟩;obtain @⟨⟩ | @⟨_,d1,_,_,_,hk⟩:=hk;obtain @⟨⟩ | @⟨_,d2,_,_,_,hk⟩:=hk;cases hk;rfl
theorem evB72(ds:List D)(hk:KsOk (sig2 72) ds)(h:side 72 ds):zCA X side (obK2 72) ds/\(deK2 72).eval X ds=X 72 ds/\(X 72 ds).cells.getD 2 .nil = .bool false:=by
 have e:=evR72 ds hk h;refine⟨e.1,e.2,?_⟩;obtain⟨s,rfl⟩:=ks1 hk;rfl
theorem evB73(ds:List D)(hk:KsOk (sig2 73) ds)(h:side 73 ds):zCA X side (obK2 73) ds/\(deK2 73).eval X ds=X 73 ds/\(X 73 ds).cells.getD 2 .nil = .bool false:=by
 have e:=evR73 ds hk h;refine⟨e.1,e.2,?_⟩;obtain⟨s,rfl⟩:=ks1 hk;rfl
theorem evB74(ds:List D)(hk:KsOk (sig2 74) ds)(h:side 74 ds):zCA X side (obK2 74) ds/\(deK2 74).eval X ds=X 74 ds/\(X 74 ds).cells.getD 2 .nil = .bool false:=by
 have e:=evR74 ds hk h;refine⟨e.1,e.2,?_⟩;obtain⟨s,rfl⟩:=ks1 hk;rfl
theorem evB75(ds:List D)(hk:KsOk (sig2 75) ds)(h:side 75 ds):zCA X side (obK2 75) ds/\(deK2 75).eval X ds=X 75 ds/\(X 75 ds).cells.getD 2 .nil = .bool false:=by
 have e:=evR75 ds hk h;refine⟨e.1,e.2,?_⟩;obtain⟨s,rfl⟩:=ks1 hk;rfl
theorem evB80(ds:List D)(hk:KsOk (sig2 80) ds)(h:side 80 ds):zCA X side (obK2 80) ds/\(deK2 80).eval X ds=X 80 ds/\(X 80 ds).cells.getD 2 .nil = .bool false:=by
 have e:=evR80 ds hk h;refine⟨e.1,e.2,?_⟩;obtain⟨s,rfl⟩:=ks1 hk;rfl
theorem evB81(ds:List D)(hk:KsOk (sig2 81) ds)(h:side 81 ds):zCA X side (obK2 81) ds/\(deK2 81).eval X ds=X 81 ds/\(X 81 ds).cells.getD 2 .nil = .bool false:=by
 have e:=evR81 ds hk h;refine⟨e.1,e.2,?_⟩;obtain⟨s,rfl⟩:=ks1 hk;rfl
theorem evB82(ds:List D)(hk:KsOk (sig2 82) ds)(h:side 82 ds):zCA X side (obK2 82) ds/\(deK2 82).eval X ds=X 82 ds/\(X 82 ds).cells.getD 2 .nil = .bool false:=by
 have e:=evR82 ds hk h;refine⟨e.1,e.2,?_⟩;obtain⟨s,rfl⟩:=ks1 hk;rfl
theorem evB(k:Nat)(hk:known2? k=true)(ds:List D)(hks:KsOk (sig2 k) ds)(h:side k ds):zCA X side (obK2 k) ds/\(deK2 k).eval X ds=X k ds/\(X k ds).cells.getD 2 .nil = .bool false:=by
 unfold known2? at hk;split at hk
 ·exact evB61 ds hks h
 ·exact evB62 ds hks h
 ·exact evB63 ds hks h
 ·exact evB65 ds hks h
 ·exact evB66 ds hks h
 ·exact evB67 ds hks h
 ·exact evB69 ds hks h
 ·exact evB70 ds hks h
 ·exact evB71 ds hks h
 ·exact evB72 ds hks h
 ·exact evB73 ds hks h
 ·exact evB74 ds hks h
 ·exact evB75 ds hks h
 ·exact evB80 ds hks h
 ·exact evB81 ds hks h
 ·exact evB82 ds hks h
 ·cases hk
def ctrs2(base tab:List (Nat×Ctr))(r:Nat)(f:FuncId):Option Ctr :=
 match lk f tab with
 | some c=>if yFL c.fn<r then some c else none
 | none=>lk f base
def runOk2(P:Program)(base tab:List (Nat×Ctr))(f:FuncId)(c:Ctr):Bool :=
 match P.funcs[f]? with
 | some fn =>
  match runF ⟨P,ctrs2 base tab (yFL c.fn),fun _ _ _=>none⟩ 100000 8 c fn with
  | some (d,os)=>d.beq (deK2 c.fn)&&qAC os (obK2 c.fn)
  | none=>false
 | none=>false
def ctrOk2?(P:Program)(base tab:List (Nat×Ctr))(f:FuncId)(c:Ctr):Bool :=
 known2? c.fn&&areA P (sig2 c.fn) c.args&&c.pre&&runOk2 P base tab f c
theorem one_ok2{P:Program}{base tab:List (Nat×Ctr)}(hnm:xJA P)(hord:P.follows .mixedOrders=true){f:FuncId}{c:Ctr}(h:ctrOk2? P base tab f c=true)
  (hc:∀g d,ctrs2 base tab (yFL c.fn) g=some d->qRA P X side g d):qRA P X side f c:=by
 simp only[ctrOk2?,baZ] at h;obtain⟨⟨⟨hk,hsig⟩,hpre⟩,hrun⟩:=h;unfold runOk2 at hrun;split at hrun
 rotate_left
 ·cases hrun
 rename_i fn hf;split at hrun
 rotate_left
 ·cases hrun
 rename_i d os hr;simp only[baZ] at hrun;have e1:=DE.beq_eq hrun.1;have e2:=xTB hrun.2;subst e1;subst e2
 exact qPC (C:=⟨P,ctrs2 base tab (yFL c.fn),fun _ _ _=>none⟩) hnm hord hc hf hr (fun ok w vs ds hA hp=>by
  obtain⟨q1,q2,q3⟩:=evB c.fn hk ds (zHF hsig hA) (hp hpre);exact⟨q1,q2,fun _ _=>q3⟩)
def hand2(k:Nat):Bool:=k==86 || k==87
theorem all_ok2{P:Program}{base tab:List (Nat×Ctr)}(hnm:xJA P)(hord:P.follows .mixedOrders=true)(hb:∀f c,lk f base=some c->qRA P X side f c)
  (hh:∀f c,lk f tab=some c->hand2 c.fn=true->qRA P X side f c) (hchk:∀f c,lk f tab=some c->hand2 c.fn=false->ctrOk2? P base tab f c=true):∀f c,lk f tab=some c->qRA P X side f c:=by
 have key:∀r f c,lk f tab=some c->yFL c.fn=r->qRA P X side f c:=by
  intro r
  induction r using Nat.strongRecOn with
  | ind r ih =>
   intro f c hl hr;cases h86:hand2 c.fn with
   | true=>exact hh f c hl h86
   | false =>
    refine one_ok2 hnm hord (hchk f c hl h86) (fun g d hg=>?_);unfold ctrs2 at hg;split at hg
    ·rename_i c' hc';split at hg
     ·rename_i hlt;cases hg;exact ih _ (by omega) g _ hc' rfl
     ·cases hg
    ·exact hb g d hg
 exact fun f c h=>key _ f c h rfl
end Go.Mx
namespace Go.Mx
open Go Go.Dx
def ob301:List Ob :=
 [.all (.v 0) [] [] [.when (.f .ite [.f .ltI [.k (.int 0),.v 1],.f .ltI [.f (.get 0) [.v 2],.f (.get 0) [.f .at [.v 0,.f (.sub .i64) [.v 1,.k (.int 1)]]]],.k (.bool false)]) true [.nz (.k (.int 0))],
  .when (.f .ltI [.k (.int 0),.v 1]) true [.idx (.f (.sub .i64) [.v 1,.k (.int 1)]) (.v 0) true]]]
theorem ev301(u:Option (List Tg))(h:side 301 [encU u]):zCA X side ob301 [encU u]:=by
 obtain⟨hp,hl⟩:=h;generalize hd:encU u=d at hp hl;have hlen:d.len=d.rows.length:=by
  rw[<- hd];cases u with
  | none=>rfl
  | some l=>rfl
 refine⟨?_,trivial⟩;simp only[Ob.holds];have e0:(DE.v 0).eval X [d]=d:=rfl;rw[e0];intro k hk;have hst:∀n r,yIA (fun i r acc=>zDA X [] ([d]++(.int i::r::acc))) n r (zDA X [] [d])=[]:=fun n r=>by
  rw[zBA]
  have:∀(r:List D) (n:Nat),yIA (fun i r acc=>zDA X [] ([d]++(.int i::r::acc))) n r []=[]:=fun r=>by
   induction r with
   | nil=>intro n;rfl
   | cons a r ih=>intro n;rw[yIA,zBA];exact ih _
  exact this r n
 rw[hst];generalize hr:d.rows.getD k .nil=r;have hrk:d.rows[k]? = some r:=by
  rw[List.getD_eq_getElem?_getD,List.getElem?_eq_getElem hk,Option.getD_some] at hr;rw[List.getElem?_eq_getElem hk,hr]
 have v0:(DE.v 0).eval X ([d]++[D.int (k:Nat),r])=d:=rfl;have v1:(DE.v 1).eval X ([d]++[D.int (k:Nat),r]) = .int (k:Nat):=rfl;have v2:(DE.v 2).eval X ([d]++[D.int (k:Nat),r])=r:=rfl;have elt:(DE.f .ltI [.k (.int 0),.v 1]).eval X ([d]++[D.int (k:Nat),r]) = .bool (decide ((0:Int)<(k:Nat))):=by
  rw[ev_f,zAA,zAA,zBA,v1,ev_k,qKA]
 have esub:k≠0->(DE.f (.sub .i64) [.v 1,.k (.int 1)]).eval X ([d]++[D.int (k:Nat),r]) = .int ((k-1:Nat):Nat):=fun h0=>by
  rw[ev_f,zAA,zAA,zBA,v1,ev_k];show D.int (IntKind.i64.wrap ((k:Int)-1))=_;rw[IntKind.wrap_i64]
  congr 1
  omega
 show zCA X side _ ([d]++[D.int (k:Nat),r]);refine⟨fun h=>?_,fun h=>?_,trivial⟩
 ·exfalso;rw[ev_f,zAA,zAA,zAA,zBA,elt,ev_k,zXA] at h;by_cases h0:k=0
  ·subst h0;simp[D.asBool] at h
  ·have hdd:decide ((0:Int)<(k:Nat))=true:=by simp;omega
   rw[hdd,if_pos rfl,ev_f,zAA,zAA,zBA,ev_f,zAA,zBA,v2,ev_f,zAA,zBA,ev_f,zAA,zAA,zBA,v0,esub h0] at h;have e3:Fn.eval X .at [d,.int ((k-1:Nat):Nat)]=d.rows.getD (k-1) .nil:=by
    show d.rows.getD (((k-1:Nat):Int)).toNat .nil=_;rw[Int.toNat_natCast]
   rw[e3] at h;have hk1:k-1<d.rows.length:=by omega
   have hlt:=List.pairwise_iff_getElem.1 hp (k-1) k (by rw[List.length_map];omega) (by rw[List.length_map];exact hk) (by omega);simp only[List.getElem_map] at hlt;have hrk2:d.rows[k]=r:=by
    rw[List.getElem?_eq_getElem hk] at hrk;exact Option.some.inj hrk
   rw[hrk2] at hlt;rw[List.getD_eq_getElem?_getD,List.getElem?_eq_getElem hk1,Option.getD_some] at h;have h:decide ((r.cells.getD 0 .nil).asInt<((d.rows[k-1]).cells.getD 0 .nil).asInt)=true:=h
   have:=of_decide_eq_true h
   omega
 ·refine⟨?_,trivial⟩;rw[elt] at h;have h:decide ((0:Int)<(k:Nat))=true:=h;have h0:k≠0:=by have:=of_decide_eq_true h;omega
  simp only[Ob.holds];rw[esub h0,v0,hlen];simp only[D.asInt,if_true];omega
end Go.Mx
namespace Go.Mx
open Go Go.Dx
def deK3:Nat->DE
 | 301=>.k .nil
 | 303=>de303
 | 304=>de304
 | 305=>de305
 | 306=>de306
 | 307=>de307
 | _=>.k .nil
def obK3:Nat->List Ob
 | 301=>ob301
 | 303=>ob303
 | 304=>ob304
 | 305=>ob305
 | 306=>ob306
 | 307=>ob307
 | _=>[]
def sig3:Nat->List K
 | 301=>[.tags]
 | 303=>[.fls,.int .i64,.bool,.tree,.tree]
 | 304=>[.fl,.int .i64,.bool,.tree,.tree]
 | 305=>[.fls,.tree]
 | 306=>[.int .i64,.int .i64]
 | 307=>[.fls,.tree]
 | _=>[]
def qQG:Nat->Nat
 | 303=>5
 | 304=>5
 | 305=>5
 | 307=>6
 | _=>0
def known3?:Nat->Bool
 | 301=>true
 | 303=>true
 | 304=>true
 | 305=>true
 | 306=>true
 | 307=>true
 | _=>false
theorem yAL{n k:Nat}{ds:List D}(h:Pre3 n k ds):side k ds:=h.2
theorem evC(k:Nat)(hk:known3? k=true)(hr:xSA k=false):∀(ds:List D),KsOk (sig3 k) ds->side k ds->zCA X side (obK3 k) ds/\(deK3 k).eval X ds=X k ds:=by
 unfold known3? at hk;split at hk
 ·intro ds hk h;obtain @⟨⟩ | @⟨_,d1,_,_,k1,hk⟩:=hk;cases hk;obtain⟨x1,rfl⟩:=k1;exact⟨ev301 x1 h,rfl⟩
 ·simp[xSA] at hr
 ·simp[xSA] at hr
 ·simp[xSA] at hr
 ·intro ds hk h;obtain @⟨⟩ | @⟨_,d1,_,_,k1,hk⟩:=hk;obtain @⟨⟩ | @⟨_,d2,_,_,k2,hk⟩:=hk;cases hk;obtain⟨x1,rfl,w1⟩:=k1;obtain⟨x2,rfl,w2⟩:=k2;exact⟨trivial,ev306 x1 x2⟩
 ·intro ds hk h;obtain @⟨⟩ | @⟨_,d1,_,_,k1,hk⟩:=hk;obtain @⟨⟩ | @⟨_,d2,_,_,k2,hk⟩:=hk;cases hk;obtain⟨x1,rfl⟩:=k1;obtain⟨x2,rfl⟩:=k2;have e:=ev307 x1 x2 0;exact⟨Obs.mono (fun _ _ h=>yAL h) _ _ e.1,e.2⟩
 ·cases hk
theorem evCR(k:Nat)(hk:known3? k=true)(hr:xSA k=true)(n:Nat):∀(ds:List D),KsOk (sig3 k) ds->Pre3 (n+1) k ds->zCA X (Pre3 n) (obK3 k) ds/\(deK3 k).eval X ds=X k ds:=by
 unfold known3? at hk;split at hk
 ·simp[xSA] at hr
 ·intro ds hk h;obtain @⟨⟩ | @⟨_,d1,_,_,k1,hk⟩:=hk;obtain @⟨⟩ | @⟨_,d2,_,_,k2,hk⟩:=hk;obtain @⟨⟩ | @⟨_,d3,_,_,k3,hk⟩:=hk;obtain @⟨⟩ | @⟨_,d4,_,_,k4,hk⟩:=hk;obtain @⟨⟩ | @⟨_,d5,_,_,k5,hk⟩:=hk;cases hk;obtain⟨x1,rfl⟩:=k1;obtain⟨x2,rfl,w2⟩:=k2;obtain⟨x3,rfl⟩:=k3;obtain⟨x4,rfl⟩:=k4;obtain⟨x5,rfl⟩:=k5;exact ev303 x1 x2 x3 x4 x5 n h
 ·intro ds hk h;obtain @⟨⟩ | @⟨_,d1,_,_,k1,hk⟩:=hk;obtain @⟨⟩ | @⟨_,d2,_,_,k2,hk⟩:=hk;obtain @⟨⟩ | @⟨_,d3,_,_,k3,hk⟩:=hk;obtain @⟨⟩ | @⟨_,d4,_,_,k4,hk⟩:=hk;obtain @⟨⟩ | @⟨_,d5,_,_,k5,hk⟩:=hk;cases hk;obtain⟨x1,rfl⟩:=k1;obtain⟨x2,rfl,w2⟩:=k2;obtain⟨x3,rfl⟩:=k3;obtain⟨x4,rfl⟩:=k4;obtain⟨x5,rfl⟩:=k5;exact ev304 x1 x2 x3 x4 x5 n h
 ·intro ds hk h;obtain @⟨⟩ | @⟨_,d1,_,_,k1,hk⟩:=hk;obtain @⟨⟩ | @⟨_,d2,_,_,k2,hk⟩:=hk;cases hk;obtain⟨x1,rfl⟩:=k1;obtain⟨x2,rfl⟩:=k2;exact ev305 x1 x2 n h
 ·simp[xSA] at hr
 ·simp[xSA] at hr
 ·cases hk
def xSK(base tab:List (Nat×Ctr))(r:Nat)(f:FuncId):Option Ctr :=
 match lk f tab with
 | some c=>if qQG c.fn<r || (r==5&&xSA c.fn) then some c else none
 | none=>lk f base
def hn3(k:Nat):List (Nat×Nat×Nat×Hint):=if k==301 then [(0,999999,0,([],0)),(45,0,1,([],0))] else [(120,0,5,([(.slot 2,.bool)],1)),(120,2,5,([],1))]
def xPH(P:Program)(base tab:List (Nat×Ctr))(f:FuncId)(c:Ctr):Bool :=
 match P.funcs[f]? with
 | some fn =>
  match runF ⟨P,xSK base tab (qQG c.fn),lookH (hn3 c.fn)⟩ 100000 8 c fn with
  | some (d,os)=>noRd c.res&&(d.beq (deK3 c.fn)&&qAC os (obK3 c.fn))
  | none=>false
 | none=>false
def ctrOk3?(P:Program)(base tab:List (Nat×Ctr))(f:FuncId)(c:Ctr):Bool :=
 known3? c.fn&&areA P (sig3 c.fn) c.args&&c.pre&&xPH P base tab f c
theorem yGL{k:Nat}(hk:known3? k=true):qQG k=5↔xSA k=true:=by
 unfold known3? at hk;split at hk
 all_goals first|cases hk;done|decide
theorem yOE{base tab:List (Nat×Ctr)}{r:Nat}{f:FuncId}{c:Ctr}(h:xSK base tab r f=some c):(lk f tab=some c/\(qQG c.fn<r∨(r=5/\xSA c.fn=true)))∨(lk f tab=none/\lk f base=some c):=by
 unfold xSK at h;split at h
 ·rename_i c' hc;split at h
  ·rename_i hb;cases h;simp only[Bool.or_eq_true,dtZ,baZ,beq_iff_eq] at hb;exact .inl ⟨hc,hb⟩
  ·cases h
 ·rename_i hn;exact .inr ⟨hn,h⟩
theorem xFI{P:Program}{A B:Nat->List D->Prop}{base tab:List (Nat×Ctr)}(hnm:xJA P)(hord:P.follows .mixedOrders=true){f:FuncId}{c:Ctr}(hrun:xPH P base tab f c=true)(hsig:areA P (sig3 c.fn) c.args=true)(hpre:c.pre=true)
  (hc:∀g d,xSK base tab (qQG c.fn) g=some d->qRA P X A g d) (hX:∀ds,KsOk (sig3 c.fn) ds->B c.fn ds->zCA X A (obK3 c.fn) ds/\(deK3 c.fn).eval X ds=X c.fn ds):qRA P X B f c:=by
 unfold xPH at hrun;split at hrun
 rotate_left
 ·cases hrun
 rename_i fn hf;split at hrun
 rotate_left
 ·cases hrun
 rename_i d os hr;simp only[baZ] at hrun;have e1:=DE.beq_eq hrun.2.1;have e2:=xTB hrun.2.2;subst e1;subst e2
 exact qPC (C:=⟨P,xSK base tab (qQG c.fn),lookH (hn3 c.fn)⟩) hnm hord hc hf hr (fun ok w vs ds hA hp=>by
  obtain⟨q1,q2⟩:=hX ds (zHF hsig hA) (hp hpre);exact⟨q1,q2,zGE hrun.1 _⟩)
theorem all_ok3{P:Program}{base tab:List (Nat×Ctr)}(hnm:xJA P)(hord:P.follows .mixedOrders=true)(hb:∀f c,lk f base=some c->qRA P X side f c)
  (hchk:∀f c,lk f tab=some c->ctrOk3? P base tab f c=true):∀f c,lk f tab=some c->qRA P X side f c:=by
 have key:∀r f c,lk f tab=some c->qQG c.fn=r->qRA P X side f c:=by
  intro r
  induction r using Nat.strongRecOn with
  | ind r ih =>
   intro f c hl hr;have h:=hchk f c hl;unfold ctrOk3? at h;simp only[baZ] at h;obtain⟨⟨⟨hk,hsig⟩,hpre⟩,hrun⟩:=h;cases hrec:xSA c.fn with
   | false =>
    refine xFI hnm hord hrun hsig hpre (A:=side) (fun g d hg=>?_) (evC c.fn hk hrec);rcases yOE hg with⟨h1,h2⟩|⟨_,h1⟩
    ·rcases h2 with h2|⟨h2,_⟩
     ·exact ih _ (by omega) g d h1 rfl
     ·have:=(yGL hk).1 h2
      rw[hrec] at this;cases this
    ·exact hb g d h1
   | true =>
    have h5:r=5:=by rw[<- hr];exact(yGL hk).2 hrec
    have main:∀n f c,lk f tab=some c->known3? c.fn=true->xSA c.fn=true->areA P (sig3 c.fn) c.args=true->c.pre=true->xPH P base tab f c=true->qRA P X (Pre3 n) f c:=by
     intro n
     induction n with
     | zero =>
      intro f c hl hk hrec hsig hpre hrun;refine xFI hnm hord hrun hsig hpre (A:=fun _ _=>False) (fun g d hg=>?_) (fun ds _ hB=>?_)
      ·rcases yOE hg with⟨h1,_⟩|⟨_,h1⟩
       ·have h:=hchk g d h1;unfold ctrOk3? at h;simp only[baZ] at h;obtain⟨⟨⟨_,_⟩,hp⟩,hr⟩:=h;unfold xPH at hr;split at hr
        ·rename_i fn hf;split at hr
         ·rename_i d' os hr';unfold runF at hr';split at hr'
          ·rename_i body q hb' _;exact⟨⟨fn,body,hf,hb'⟩,fun ok w vs ds _ _ _ h4=>(h4 hp).elim⟩
          ·cases hr'
         ·cases hr
        ·cases hr
       ·exact yBD (fun _ h=>h.elim) (hb g d h1)
      ·exact absurd (hB.1 hrec) (by omega)
     | succ n ihn =>
      intro f c hl hk hrec hsig hpre hrun;refine xFI hnm hord hrun hsig hpre (A:=Pre3 n) (fun g d hg=>?_) (evCR c.fn hk hrec n);rcases yOE hg with⟨h1,h2⟩|⟨_,h1⟩
      ·have hr5:=(yGL hk).2 hrec;by_cases hd:qQG d.fn<5
       ·exact yBD (fun _ h=>h.2) (ih (qQG d.fn) (by omega) g d h1 rfl)
       ·have hdr:xSA d.fn=true:=by
         rcases h2 with h2|h2
         ·omega
         ·exact h2.2
        have h:=hchk g d h1;unfold ctrOk3? at h;simp only[baZ] at h;obtain⟨⟨⟨q1,q2⟩,q3⟩,q4⟩:=h;exact ihn g d h1 q1 hdr q2 q3 q4
      ·exact yBD (fun _ h=>h.2) (hb g d h1)
    have hfin:=fun n=>main n f c hl hk hrec hsig hpre hrun
    refine⟨(hfin 0).1,fun ok w vs ds h1 h2 h3 h4=>?_⟩;exact(hfin (zEL c.fn ds+1)).2 ok w vs ds h1 h2 h3 (fun hp=>⟨fun _=>by omega,h4 hp⟩)
 exact fun f c h=>key _ f c h rfl
end Go.Mx
namespace Go.Mx
open Go Go.Dx
theorem ksT{ds:List D}(hk:KsOk [.int .i64,.byts] ds):∃(v:Int) (a:Option (List UInt8)),ds=[.int v,encB a]:=by
 obtain @⟨⟩ | @⟨_,d1,_,_,k1,hk⟩:=hk;obtain @⟨⟩ | @⟨_,d2,_,_,k2,hk⟩:=hk;cases hk;obtain⟨v,rfl,_⟩:=k1;obtain⟨a,rfl⟩:=k2;exact⟨v,a,rfl⟩
theorem told_okR{P:Program}(hnm:xJA P)(hord:P.follows .mixedOrders=true){f:FuncId}{c:Ctr}{M:Msg}{E:Int->DE}{O:Int->List Ob}(hf:yBF P f=true)
  (hpre:c.pre=true) (hnr:noRd c.res=true) (hsig:areA P [.int .i64,.byts] c.args=true) (hS:∀v a,side c.fn [v,a]=xHG M v .nil a)
  (hev:∀(v:Int) (src:Option (List UInt8)),xHG M (.int v) .nil (encB src)->zCA X side (O v) [.int v,encB src]/\(E v).eval X [.int v,encB src]=X c.fn [.int v,encB src])
  (hrun:∀v,0<=v->v<=M.most -> ∃C:Cfg,C.P=P/\(∀f c,C.ctr f=some c->qRA P X side f c)/\yXJ P C f c [(0,v)] (E v) (O v)=true):qRA P X side f c:=by
 obtain⟨fn,b,hf,hb⟩:=yUE hf;refine⟨⟨fn,b,hf,hb⟩,fun ok w vs ds hA hok hRd hp=>?_⟩;have hs:=hp hpre;obtain⟨v,da,rfl⟩:=ksT (zHF hsig hA);have hs':=hs;rw[hS] at hs';obtain⟨C,hP,hall,hr⟩:=hrun v hs'.1.1 hs'.1.2;subst hP;obtain⟨fn',hf',hr⟩:=xUH hr;rw[hf] at hf';cases hf'
 obtain⟨h1,h2⟩:=hev v da hs';refine callK hnm hord hall hf hr hA hok (fun j k hjk=>?_) h1 h2 (zGE hnr _);simp only[xDA,yLA] at hjk;split at hjk
 ·rename_i hj;cases hjk;rw[beq_iff_eq] at hj;subst hj;rfl
 ·cases hjk
theorem tellBytes_le{M:Msg}(h:qUB M=true){t:T}{B:Nat}(hb:WT t<=B)(hc:cS M.fs*(1+B)+2000<=lim)(v:Int):(yPA M.fs v (zRA M.fx v) t).length+2000<=lim:=by
 simp only[qUB,baZ] at h;exact zKI h.1.1.1 hb hc v
theorem law_callsT{P:Program}{C:Cfg}(hP:C.P=P)(hnm:xJA P)(hord:P.follows .mixedOrders=true)(hctr:∀f c,C.ctr f=some c->qRA P X side f c){f:Nat}{tu tt tb:Nat}{E:DE}{O:List Ob}
  (hrun:yXJ P C f ⟨[.val tu,.val tt],.val tb,200,false⟩ [] E O=true) (hu:isI P .u8 tu=true) (htree:yOC P tt=true)
  {ok:Nat->Prop} {w:World} {n:Int} {tv:Value} {d:D} (hn:(Lit.int .u8 n).wf=true) (ht:Rep P ok w tt tv d) (hok:∀b,ok b->b<w.heap.size)
  (hlaw:∀t:T,d=t.d->wfT t=true->0<=n->n<256->zCA X side O [.int n,t.d]/\E.eval X [.int n,t.d] = .bool true) :
  Calls P f #[.int .u8 n,tv] w fun e w'=>e = .returned (.bool true)/\Fr (fun _=>False) w w':=by
 subst hP;obtain⟨fn,hf,hr⟩:=xUH hrun;have hA:ArgsOk C.P ok w [.val tu,.val tt] [.int .u8 n,tv] [.int n,d]:=.cons (.val (.int (zXJ hu) hn)) (.cons (.val ht) .nil);obtain⟨t,rfl⟩:=(xNF ht).1 htree;have hw:=(yOL ht).1 htree t rfl;obtain⟨hn0,hn1⟩:=wf_u8 hn;obtain⟨h1,h2⟩:=hlaw t rfl hw hn0 hn1;have hW:∀b,¬Wr w [AK.val tu,.val tt] [.int .u8 n,tv] b:=fun b h=>by simp[Wr,wrA] at h
 have:=callK (C:=C) (c:=⟨[.val tu,.val tt],.val tb,200,false⟩) hnm hord hctr hf hr hA (fun b hb=>⟨hok b hb,hW b⟩) (fun j k hj=>by simp[xDA,yLA] at hj) h1 (by rw[h2];exact(X_200 _).symm) (zGE rfl _)
 refine Calls.mono this (fun e w' he=>?_);obtain⟨v,rfl,hfr,hres⟩:=he;have e1:Rep C.P (fun b=>ok b∨w.heap.size<=b) w' tb v (X 200 [.int n,t.d]):=hres (fun b=>ok b∨w.heap.size<=b) (fun _ h=>.inl h) (fun _ h _=>.inr h);rw[X_200] at e1;refine⟨?_,hfr.mono (fun b _ hb=>(hW b hb).elim)⟩;cases e1;rfl
end Go.Mx
namespace Go.Mx
open Go Go.Dx
theorem len8{b:List UInt8}(h:8<=b.length):∃b0 b1 b2 b3 b4 b5 b6 b7 r,b=b0::b1::b2::b3::b4::b5::b6::b7::r:=by
 match b,h with
 | b0::b1::b2::b3::b4::b5::b6::b7::r,_=>exact⟨b0,b1,b2,b3,b4,b5,b6,b7,r,rfl⟩
theorem yRJ{P:Program}{ok:Nat->Prop}{w:World}{t:TypeId}{v:Value}{d:D}(ha:agg P t=true)(ht:tys P t=[])(h:Rep P ok w t v d):v = .agg #[]:=by
 obtain⟨ds,rfl,_,_⟩:=xMF ha h;cases h with
 | row hu hd hlen hlen' h1 hr =>
  rename_i dd vs;rw[ht] at hlen
  have:vs=[]:=List.length_eq_zero_iff.1 hlen
  subst this;rfl
theorem hand86{P:Program}{ρ:Go.Shelf.Ren}(L:Go.Proofs.LaysBin.n42 P ρ){f:FuncId}{te tb t64 e:TypeId}(hf:ρ.f 42=f)(hb:yBF P f=true)(ha:agg P te=true)(ht:tys P te=[])(hub:P.underlying tb=some (.slice e))(he:P.underlying e=some (.int .u8))(h64:P.underlying t64=some (.int .u64)) :
  qRA P X side f ⟨[.val te,.val tb],.val t64,86,true⟩:=by
 refine⟨yUE hb,fun ok w vs ds hA hok hRd hp=>?_⟩;obtain @⟨⟩ | @⟨_,v1,d1,_,_,_,h1,hA⟩:=hA;obtain @⟨⟩ | @⟨_,v2,d2,_,_,_,h2,hA⟩:=hA;cases hA;cases h1 with
 | val h1 =>
 cases h2 with
 | val h2 =>
 obtain⟨b,hbd,hl⟩:∃b,d2 = .bytes b/\8<=b.length:=hp rfl;subst hbd;have hv1:=yRJ ha ht h1;subst hv1;obtain⟨b0,b1,b2,b3,b4,b5,b6,b7,r,rfl⟩:=len8 hl;have hB:=h2.bytesAt hub he;cases hB with
 | some hsp hcl hcap hmax =>
  rename_i ad cap;have hs:ad.spot=none:=hsp (by simp only[List.length_cons] at hcap;omega);obtain⟨g,o,sp⟩:=ad;simp only at hs;subst hs;have hc:∀(j:Nat) (x:UInt8),(b0::b1::b2::b3::b4::b5::b6::b7::r)[j]? = some x->w.cell? ⟨g,o+j,none⟩=some (.int .u8 (x.toNat:Int)):=fun j x hx=>hcl j _ (by rw[List.getElem?_map,hx];rfl)
  subst hf;refine(Go.Proofs.Any.binary_BE_Uint64 L g o _ cap b0 b1 b2 b3 b4 b5 b6 b7 w (by simp only[List.length_cons];omega) (hc 0 _ rfl) (hc 1 _ rfl) (hc 2 _ rfl) (hc 3 _ rfl) (hc 4 _ rfl) (hc 5 _ rfl) (hc 6 _ rfl) (hc 7 _ rfl)).mono fun e' w' he'=>?_
  obtain⟨rfl,hbl⟩:=he';refine⟨_,rfl,⟨hbl.os,hbl.tape,hbl.output,hbl.size,fun k hk _=>hbl.block k hk⟩,fun ok' _ _=>?_⟩;have e1:Go.Lib.beNat [b0,b1,b2,b3,b4,b5,b6,b7]=beN [b0,b1,b2,b3,b4,b5,b6,b7]:=by
   simp[Go.Lib.beNat,Go.Lib.beFrom,beN]
  have hlt:beN [b0,b1,b2,b3,b4,b5,b6,b7]<256 ^ 8:=qVI _;show Rep P ok' w' t64 _ (X 86 [d1,.bytes (b0::b1::b2::b3::b4::b5::b6::b7::r)]);rw[X_86,yEA,e1];refine .int h64 (zOC ?_);simp[IntKind.min,IntKind.max,IntKind.signed,IntKind.bits];omega
theorem hand87{P:Program}{ρ:Go.Shelf.Ren}(L:Go.Proofs.LaysBin.n39 P ρ){f:FuncId}{te tb t32 e:TypeId}(hf:ρ.f 39=f)(hb:yBF P f=true)(ha:agg P te=true)(ht:tys P te=[])(hub:P.underlying tb=some (.slice e))(he:P.underlying e=some (.int .u8))(h32:P.underlying t32=some (.int .u32)) :
  qRA P X side f ⟨[.val te,.val tb],.val t32,87,true⟩:=by
 refine⟨yUE hb,fun ok w vs ds hA hok hRd hp=>?_⟩;obtain @⟨⟩ | @⟨_,v1,d1,_,_,_,h1,hA⟩:=hA;obtain @⟨⟩ | @⟨_,v2,d2,_,_,_,h2,hA⟩:=hA;cases hA;cases h1 with
 | val h1 =>
 cases h2 with
 | val h2 =>
 obtain⟨b,hbd,hl⟩:∃b,d2 = .bytes b/\4<=b.length:=hp rfl;subst hbd;have hv1:=yRJ ha ht h1;subst hv1;obtain⟨b0,b1,b2,b3,r,rfl⟩:=len4 hl;have hB:=h2.bytesAt hub he;cases hB with
 | some hsp hcl hcap hmax =>
  rename_i ad cap;have hs:ad.spot=none:=hsp (by simp only[List.length_cons] at hcap;omega);obtain⟨g,o,sp⟩:=ad;simp only at hs;subst hs;have hc:∀(j:Nat) (x:UInt8),(b0::b1::b2::b3::r)[j]? = some x->w.cell? ⟨g,o+j,none⟩=some (.int .u8 (x.toNat:Int)):=fun j x hx=>hcl j _ (by rw[List.getElem?_map,hx];rfl)
  subst hf;refine(Go.Proofs.Any.binary_BE_Uint32 L g o _ cap b0 b1 b2 b3 w (by simp only[List.length_cons];omega) (hc 0 _ rfl) (hc 1 _ rfl) (hc 2 _ rfl) (hc 3 _ rfl)).mono fun e' w' he'=>?_
  obtain⟨rfl,hbl⟩:=he';refine⟨_,rfl,⟨hbl.os,hbl.tape,hbl.output,hbl.size,fun k hk _=>hbl.block k hk⟩,fun ok' _ _=>?_⟩;have e1:Go.Lib.beNat [b0,b1,b2,b3]=beN [b0,b1,b2,b3]:=by
   simp[Go.Lib.beNat,Go.Lib.beFrom,beN]
  have hlt:beN [b0,b1,b2,b3]<256 ^ 4:=qVI _;show Rep P ok' w' t32 _ (X 87 [d1,.bytes (b0::b1::b2::b3::r)]);rw[X_87,yEA,e1];refine .int h32 (zOC ?_);simp[IntKind.min,IntKind.max,IntKind.signed,IntKind.bits];omega
end Go.Mx
