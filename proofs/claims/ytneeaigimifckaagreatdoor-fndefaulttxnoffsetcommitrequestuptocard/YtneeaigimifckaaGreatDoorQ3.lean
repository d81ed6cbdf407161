/- Part of a verified symbolic run of the program's code (no condition of its own). -/
import Derived.Test.YtneeaigimifckaaGreatDoorQ2
import Derived.Scope
import Derived.LoopN
set_option linter.unusedVariables false
set_option linter.unusedSimpArgs false
noncomputable section
namespace Go.Dx
open Go
section
variable {P:Program} {X:Nat->List D->D} {Pre:Nat->List D->Prop} {w0:Base} {J:List D} {st:St} {g:Gh} {w:World} {a:Act}
def wpC(P:Program)(Q:Exit->Act->World->Prop):List Code->Act->World->Prop
 | [],a,w=>Q .normal a w
 | c::r,a,w=>c.wp P (Exit.then (wpC P Q r) Q) a w
def PcOk(X:Nat->List D->D)(J:List D)(pc:List (DE×Bool)):Prop:=∀p∈pc,(p.1.eval X J).asBool=p.2
theorem PcOk.nil:PcOk X J []:=fun _ h=>by cases h
theorem PcOk.append{l m:List (DE×Bool)}:PcOk X J (l++m)↔PcOk X J l/\PcOk X J m:=by
 constructor
 ·intro h;exact⟨fun p hp=>h p (List.mem_append_left _ hp),fun p hp=>h p (List.mem_append_right _ hp)⟩
 ·rintro⟨h1,h2⟩ p hp;rcases List.mem_append.1 hp with hp|hp
  ·exact h1 p hp
  ·exact h2 p hp
def Ex.toExit:Ex->Exit
 | .norm=>.normal
 | .exit i=>.exit i
 | .ret=>.ret
 | .goto l=>.goto l
structure ExOk (P:Program) (X:Nat->List D->D) (Pre:Nat->List D->Prop) (ex:ExecF):Prop where
 sound:∀(w0:Base) (J:List D) (l:List Code) (st:St) (outs:List Out) (g:Gh) (w:World) (a:Act),Mem P X w0 J st g w->Env X J st g a->ex l st=some outs ->
  (∀o∈outs,PcOk X J o.pc->zCA X Pre o.st.obl J) -> ∀Q:Exit->Act->World->Prop,
  (∀o∈outs,PcOk X J o.pc -> ∀g' w' a',Ext st g o.st g'->Mem P X w0 J o.st g' w'->Env X J o.st g' a'->Q o.ex.toExit a' w')->wpC P Q l a w
 obl:∀(l:List Code) (st:St) (outs:List Out),ex l st=some outs -> ∀o∈outs,∀x∈st.obl,x∈o.st.obl
 total:∀(J:List D) (l:List Code) (st:St) (outs:List Out),ex l st=some outs -> ∃o∈outs,PcOk X J o.pc
theorem xHA{f:St->Option (List Out)}:∀ {l r:List Out},xOD f l=some r -> ∀o∈l,(o.ex ≠ .norm->o∈r)/\(o.ex = .norm -> ∃q,f o.st=some q /\ ∀x∈q,(⟨o.pc++x.pc,x.ex,x.st⟩:Out)∈r)
 | [],_,_,o,ho=>by cases ho
 | p::l,r,h,o,ho=>by
  simp only[xOD] at h;split at h
  ·cases h
  ·rename_i r' hr;split at h
   ·rename_i hex;split at h
    ·rename_i q hq;cases h;rcases List.mem_cons.1 ho with rfl|ho
     ·refine⟨fun hne=>absurd hex hne,fun _=>⟨q,hq,fun x hx=>?_⟩⟩;exact List.mem_append_left _ (List.mem_map.2 ⟨x,hx,rfl⟩)
     ·obtain⟨h1,h2⟩:=xHA hr o ho;refine⟨fun hne=>List.mem_append_right _ (h1 hne),fun he=>?_⟩;obtain⟨q',hq',hall⟩:=h2 he;exact⟨q',hq',fun x hx=>List.mem_append_right _ (hall x hx)⟩
    ·cases h
   ·rename_i hex;cases h;rcases List.mem_cons.1 ho with rfl|ho
    ·exact⟨fun _=>by simp,fun he=>absurd he hex⟩
    ·obtain⟨h1,h2⟩:=xHA hr o ho;refine⟨fun hne=>List.mem_cons_of_mem _ (h1 hne),fun he=>?_⟩;obtain⟨q',hq',hall⟩:=h2 he;exact⟨q',hq',fun x hx=>List.mem_cons_of_mem _ (hall x hx)⟩
theorem yLB{f:St->Option (List Out)}:∀ {l r:List Out},xOD f l=some r -> ∀x∈r,(x∈l/\x.ex ≠ .norm) ∨ ∃o∈l,o.ex = .norm /\ ∃q,f o.st=some q /\ ∃y∈q,x=⟨o.pc++y.pc,y.ex,y.st⟩
 | [],r,h,x,hx=>by simp only[xOD,Option.some.injEq] at h;subst h;cases hx
 | p::l,r,h,x,hx=>by
  simp only[xOD] at h;split at h
  ·cases h
  ·rename_i r' hr;have ih:=fun hx'=>yLB hr x hx'
   split at h
   ·rename_i hex;split at h
    ·rename_i q hq;cases h;rcases List.mem_append.1 hx with hx|hx
     ·obtain⟨y,hy,rfl⟩:=List.mem_map.1 hx;exact .inr ⟨p,by simp,hex,q,hq,y,hy,rfl⟩
     ·rcases ih hx with⟨h1,h2⟩|⟨o,ho,h2⟩
      ·exact .inl ⟨List.mem_cons_of_mem _ h1,h2⟩
      ·exact .inr ⟨o,List.mem_cons_of_mem _ ho,h2⟩
    ·cases h
   ·rename_i hex;cases h;rcases List.mem_cons.1 hx with rfl|hx
    ·exact .inl ⟨by simp,hex⟩
    ·rcases ih hx with⟨h1,h2⟩|⟨o,ho,h2⟩
     ·exact .inl ⟨List.mem_cons_of_mem _ h1,h2⟩
     ·exact .inr ⟨o,List.mem_cons_of_mem _ ho,h2⟩
theorem qRH(K K':Act->World->Prop)(Q:Exit->Act->World->Prop):Exit.then K (Exit.then K' Q)=Exit.then K Q:=by
 funext e a w;cases e <;> rfl
theorem yDE{K:Act->World->Prop}{Q:Exit->Act->World->Prop}{e:Ex}{a:Act}{w:World}(he:e ≠ .norm)(h:Q e.toExit a w):Exit.then K Q e.toExit a w:=by
 cases e with
 | norm=>exact absurd rfl he
 | exit i=>exact h
 | ret=>exact h
 | goto l=>exact h
theorem zZB{ex:ExecF}(hex:ExOk P X Pre ex){r:List Code}{l outs:List Out}(hb:xOD (ex r) l=some outs)(hob:∀o∈outs,PcOk X J o.pc->zCA X Pre o.st.obl J){Q:Exit->Act->World->Prop}{st0:St}{g0:Gh}
  (hQ:∀o∈outs,PcOk X J o.pc -> ∀g' w' a',Ext st0 g0 o.st g'->Mem P X w0 J o.st g' w'->Env X J o.st g' a'->Q o.ex.toExit a' w') :
  (∀o∈l,PcOk X J o.pc->zCA X Pre o.st.obl J) /\
  ∀o∈l,PcOk X J o.pc -> ∀g' w' a',Ext st0 g0 o.st g'->Mem P X w0 J o.st g' w'->Env X J o.st g' a'->Exit.then (wpC P Q r) Q o.ex.toExit a' w':=by
 refine⟨fun o ho hpc=>?_,fun o ho hpc g' w' a' k1 k2 k3=>?_⟩
 ·obtain⟨h1,h2⟩:=xHA hb o ho;by_cases hn:o.ex = .norm
  ·obtain⟨q,hq,hall⟩:=h2 hn;obtain⟨x,hx,hxp⟩:=hex.total J r o.st q hq;have hh:zCA X Pre x.st.obl J:=hob ⟨o.pc++x.pc,x.ex,x.st⟩ (hall x hx) (PcOk.append.2 ⟨hpc,hxp⟩);exact zJA.2 fun y hy=>zJA.1 hh y (hex.obl r o.st q hq x hx y hy)
  ·exact hob o (h1 hn) hpc
 ·obtain⟨h1,h2⟩:=xHA hb o ho;by_cases hn:o.ex = .norm
  ·obtain⟨q,hq,hall⟩:=h2 hn;rw[hn];show wpC P Q r a' w';exact hex.sound w0 J r o.st q g' w' a' k2 k3 hq (fun x hx hxp=>hob ⟨o.pc++x.pc,x.ex,x.st⟩ (hall x hx) (PcOk.append.2 ⟨hpc,hxp⟩)) Q (fun x hx hxp g2 w2 a2 m1 m2 m3=>hQ ⟨o.pc++x.pc,x.ex,x.st⟩ (hall x hx) (PcOk.append.2 ⟨hpc,hxp⟩) g2 w2 a2 (k1.trans m1) m2 m3)
  ·exact yDE hn (hQ o (h1 hn) hpc g' w' a' k1 k2 k3)
theorem xOA(i:Nat):∀ {l:List Out} {o:Out},o∈l -> ∃o'∈xGB i l,o'.pc=o.pc/\o'.st=o.st/\(o.ex = .exit i/\o'.ex = .norm∨o.ex ≠ .exit i/\o'.ex=o.ex)
 | [],_,h=>by cases h
 | p::l,o,h=>by
  rcases List.mem_cons.1 h with rfl|h
  ·refine⟨_,by rw[xGB];exact List.mem_cons_self,?_⟩;by_cases hx:o.ex = .exit i
   ·simp[hx]
   ·simp[hx]
  ·obtain⟨o',h1,h2⟩:=xOA i h;exact⟨o',by rw[xGB];exact List.mem_cons_of_mem _ h1,h2⟩
theorem xXC(i:Nat):∀ {l:List Out} {o':Out},o'∈xGB i l -> ∃o∈l,o'.pc=o.pc/\o'.st=o.st
 | [],_,h=>by simp[xGB] at h
 | p::l,o',h=>by
  rw[xGB] at h;rcases List.mem_cons.1 h with rfl|h
  ·refine⟨p,by simp,?_⟩;split <;> exact⟨rfl,rfl⟩
  ·obtain⟨o,h1,h2⟩:=xXC i h;exact⟨o,List.mem_cons_of_mem _ h1,h2⟩
theorem zWA{c:Code}{Q:Exit->Act->World->Prop}(h:wpC P Q [c] a w):c.wp P Q a w:=by
 have e:Exit.then (wpC P Q []) Q=Q:=by funext e a w;cases e <;> rfl
 have h':c.wp P (Exit.then (wpC P Q []) Q) a w:=h;rw[e] at h';exact h'
theorem qSD:∀(l:List SV) (i s:Nat) (sv:SV),lk s (qJC i l)=some sv->i<=s/\l[s-i]? = some sv
 | [],_,_,_,h=>by simp[qJC,xDA,yLA] at h
 | x::l,i,s,sv,h=>by
  simp only[qJC] at h;by_cases hs:i=s
  ·subst hs;rw[zKA] at h;simpa using h
  ·rw[zIA hs] at h;obtain⟨h1,h2⟩:=qSD l (i+1) s sv h;refine⟨by omega,?_⟩;rw[show s-i=(s-(i+1))+1 by omega];simpa using h2
def xNH(tmps:Array Value):ResultVar->Sem Value
 | .tmp t=>pure (tmps.getD t undef)
 | .cell c t=>do loadVar t (<- asAddr (tmps.getD c undef))
theorem zVK(fn:Func)(tmps:Array Value):results fn tmps=(do
  let vs <- fn.results.mapM (xNH tmps)
  pure (if h:vs.size=1 then vs[0] else .tuple vs)):=by
 unfold results
 congr 2
theorem zUK(h:Mem P X w0 J st g w)(he:Env X J st g a){r:ResultVar}{s:SV}(hr:resS P st r=some s):(xNH a.tmps r).run P w = .ok (s.den X J g) w/\s.ok X J:=by
 cases r with
 | tmp t =>
  obtain⟨h1,h2⟩:=he.tm t s hr;refine⟨?_,h2⟩;simp[xNH,Array.getD_eq_getD_getElem?,h1]
 | cell c t =>
  simp only[resS,Option.bind_eq_bind,Option.bind_eq_some_iff] at hr;obtain⟨p,hp,hl⟩:=hr;obtain⟨h1,h2⟩:=he.tm c p hp;obtain⟨k1,k2⟩:=xYD h hl;refine⟨?_,k2⟩;have e:a.tmps.getD c undef=p.den X J g:=by simp[Array.getD_eq_getD_getElem?,h1]
  show (do loadVar t (<- asAddr (a.tmps.getD c undef)):Sem Value).run P w=_;rw[e];cases p with
  | oa o off=>simpa[SV.den,asAddr,Instr.loadAt,Instr.sureAddr] using k1
  | ra n off=>simpa[SV.den,asAddr,Instr.loadAt,Instr.sureAddr] using k1
  | c cv =>
   cases cv with
   | glob k=>simpa[SV.den,CV.den,asAddr,Instr.loadAt,Instr.sureAddr] using k1
   | _=>simp[yRI] at hl
  | _=>simp[yRI] at hl
theorem xOF(h:Mem P X w0 J st g w)(he:Env X J st g a):∀ {rs:List ResultVar} {l:List SV},xOI P st rs=some l->(rs.mapM (xNH a.tmps)).run P w = .ok (dens X J g l) w/\oks X J l
 | [],l,hr=>by
  simp only[xOI,Option.some.injEq] at hr;subst hr;exact⟨by simp[dens],trivial⟩
 | r::rs,l,hr=>by
  simp only[xOI,Option.bind_eq_bind,Option.bind_eq_some_iff,Option.some.injEq] at hr;obtain⟨x,hx,xs,hxs,rfl⟩:=hr;obtain⟨h1,h2⟩:=zUK h he hx;obtain⟨k1,k2⟩:=xOF h he hxs;refine⟨?_,h2,k2⟩;rw[List.mapM_cons,Sem.run_bind,h1];simp only[Result.andThen_ok];rw[Sem.run_bind,k1];simp[dens]
theorem xRC(h:Mem P X w0 J st g w)(he:Env X J st g a){fn:Func}{l:List SV}(hr:xOI P st fn.results.toList=some l) :
  (results fn a.tmps).run P w = .ok ((tupS l).den X J g) w/\(tupS l).ok X J:=by
 obtain⟨h1,h2⟩:=xOF h he hr;have h1':(fn.results.mapM (xNH a.tmps)).run P w = .ok (dens X J g l).toArray w:=by
  rw[Array.mapM_eq_mapM_toList,Sem.run_map,h1]
  simp
 rw[zVK,Sem.run_bind,h1'];simp only[Result.andThen_ok,Sem.run_pure]
 match l,h2 with
 | [],_=>exact⟨by simp[tupS,SV.den,dens],trivial⟩
 | [x],h2=>exact⟨by simp[tupS,dens],h2.1⟩
 | x::y::r,h2=>exact⟨by simp[tupS,SV.den,dens],h2⟩
mutual
theorem yDG{st':St}{g':Gh}(hx:Ext st g st' g'):∀ {s:SV},yCG st s=true->s.den X J g'=s.den X J g
 | .i _ _,_=>rfl
 | .b _,_=>rfl
 | .s _,_=>rfl
 | .fl _,_=>rfl
 | .c _,_=>rfl
 | .x n,h=>by
  obtain⟨vi,hv⟩:=Option.isSome_iff_exists.1 h;exact(hx.rv n vi hv).2.1
 | .xc n j,h=>by
  obtain⟨vi,hv⟩:=Option.isSome_iff_exists.1 h;simp[SV.den,(hx.rv n vi hv).2.1]
 | .ra n j,h=>by
  obtain⟨vi,hv⟩:=Option.isSome_iff_exists.1 h;simp[SV.den,(hx.rv n vi hv).2.2]
 | .oa n j,h=>by
  obtain⟨vi,hv⟩:=Option.isSome_iff_exists.1 h;simp[SV.den,(hx.rb n vi hv).2]
 | .osl n j,h=>by
  obtain⟨vi,hv⟩:=Option.isSome_iff_exists.1 h;simp[SV.den,(hx.rb n vi hv).2]
 | .ea n e k z,h=>by
  obtain⟨vi,hv⟩:=Option.isSome_iff_exists.1 h;simp[SV.den,(hx.rv n vi hv).2.1]
 | .agg l,h=>by
  have:xJC st l=true:=by simpa[yCG] using h
  simp[SV.den,xKC hx this]
 | .tup l,h=>by
  have:xJC st l=true:=by simpa[yCG] using h
  simp[SV.den,xKC hx this]
 | .w k l,h=>by
  have:xJC st l=true:=by simpa[yCG] using h
  simp[SV.den,xKC hx this]
theorem xKC{st':St}{g':Gh}(hx:Ext st g st' g'):∀ {l:List SV},xJC st l=true->dens X J g' l=dens X J g l
 | [],_=>rfl
 | x::l,h=>by
  simp only[xJC,baZ] at h;simp[dens,yDG hx h.1,xKC hx h.2]
end
theorem qIC:∀ {outs:List Out},zGF outs=true -> ∀o∈outs,o.ex = .norm∨o.ex = .ret
 | [],_,o,ho=>by cases ho
 | q::r,h,o,ho=>by
  simp only[zGF,baZ] at h;rcases List.mem_cons.1 ho with rfl|ho
  ·have h1:=h.1;cases hx:o.ex with
   | norm=>exact .inl rfl
   | ret=>exact .inr rfl
   | exit i=>rw[hx] at h1;cases h1
   | goto i=>rw[hx] at h1;cases h1
  ·exact qIC h.2 o ho
theorem asPc_ok{o:Out}(h:PcOk X J o.pc):PcH X J (asPc o).1:=fun x hx=>by
 obtain⟨p,hp,rfl⟩:=List.mem_map.1 hx;exact h p hp
theorem xDD{C:Cfg}{ex:ExecF}(hex:ExOk C.P X Pre ex){f:FuncId}{as:List SV}{s:SV}{st':St}(h:Mem C.P X w0 J st g w)(he:Env X J st g a)(has:oks X J as)(hi:qCG C ex f as st=some (s,st'))(hob:zCA X Pre st'.obl J) :
  (∃fn c,C.P.funcs[f]? = some fn/\fn.body=some c) /\
  Calls C.P f (dens X J g as).toArray w fun e w'=>∃g',e = .returned (s.den X J g')/\Ext st g st' g'/\Mem C.P X w0 J st' g' w'/\Env X J st' g' a/\s.ok X J:=by
 unfold qCG at hi;split at hi
 ·cases hi
 rename_i fn hfn;split at hi
 ·cases hi
 rename_i body hbody;split at hi
 ·rename_i hc;obtain⟨hlen,hknown⟩:=hc;split at hi
  ·cases hi
  rename_i outs houts;split at hi
  ·rename_i hall;split at hi
   ·cases hi
   rename_i s1 hcomb;split at hi
   ·cases hi
   rename_i rs hrs;cases hi;have hobm:zCA X Pre s1.obl J:=(zUA.1 hob).1;refine⟨⟨fn,body,hfn,hbody⟩,calls_of_wp hfn hbody (zWA ?_)⟩;generalize hs0:({ st with env:=qJC 0 as,nt:=fn.ntmps,obl:=[] }:St)=s0 at houts hcomb;have hm0:Mem C.P X w0 J s0 g w:=by rw[<- hs0];exact h.same rfl rfl rfl rfl
   have he0:Env X J s0 g { tmps:=(dens X J g as).toArray++Array.replicate (fn.ntmps-(dens X J g as).toArray.size) undef,defers:=[] }:=by
    rw[<- hs0];refine⟨fun t sv ht=>?_,rfl,?_⟩
    ·obtain⟨_,h1⟩:=qSD as 0 t sv ht;rw[Nat.sub_zero] at h1;refine⟨?_,yFA.1 has sv (List.mem_of_getElem? h1)⟩;have h2:(dens X J g as)[t]? = some (sv.den X J g):=by rw[zSA,List.getElem?_map,h1];rfl
     have hlt:=(List.getElem?_eq_some_iff.1 h2).1;simp only;rw[Array.getElem?_append_left (by simpa using hlt)];simpa using h2
    ·simp[yHA];omega
   have hway:=fun o (ho:o∈outs) (hpc:PcOk X J o.pc)=>qAB (w0:=w0) (g0:=g) hcomb hobm (asPc o) (List.mem_map.2 ⟨o,ho,rfl⟩) (asPc_ok hpc)
   refine hex.sound w0 J [body] _ _ g w _ hm0 he0 houts (fun o ho hpc=>(hway o ho hpc).1) _ (fun o ho hpc g' w' a' k1 k2 k3=>?_);obtain⟨g2,m1,m2,m3⟩:=(hway o ho hpc).2 g' w' a' k2 k3 k1;obtain⟨r1,r2⟩:=xRC m1 m2 hrs;have hX:Ext st g { s1 with env:=st.env,nt:=st.nt,obl:=s1.obl++st.obl } g2:=(m3.same (s2:=st) (by rw[<- hs0]) (by rw[<- hs0])).same' rfl rfl;have hpost:a'.defers=[] /\ ∃v,(results fn a'.tmps).run C.P w' = .ok v w'/\(∃g',Ending.returned v = .returned ((tupS rs).den X J g')/\Ext st g { s1 with env:=st.env,nt:=st.nt,obl:=s1.obl++st.obl } g'/\Mem C.P X w0 J { s1 with env:=st.env,nt:=st.nt,obl:=s1.obl++st.obl } g' w'/\Env X J { s1 with env:=st.env,nt:=st.nt,obl:=s1.obl++st.obl } g' a/\(tupS rs).ok X J):=by
    refine⟨m2.df,_,r1,g2,rfl,hX,m1.same rfl rfl rfl rfl,⟨fun t sv ht=>?_,he.df,he.sz⟩,r2⟩;obtain⟨t1,t2⟩:=he.tm t sv ht;have hk:=List.all_eq_true.1 hknown _ (qZA ht);exact⟨by rw[t1,yDG hX hk],t2⟩
   rcases qIC hall o ho with hx|hx
   ·rw[hx];exact hpost
   ·rw[hx];exact hpost
  ·cases hi
 ·cases hi
theorem yPL{st0:St}{t:TypeId}{o k:Nat}{st st':St}(hr:xOH P st0 t o k st=some st'):st'.obl=st.obl:=by
 unfold xOH at hr;split at hr
 ·split at hr
  ·split at hr
   ·split at hr
    ·rename_i cs _ _ _ _ _ _ _ _ _ _;split at hr
     ·rename_i s3 hn;cases hr
      have:=xMA hn
      exact this.trans (xUA st _).2.2.1
     ·cases hr
    ·cases hr
   ·cases hr
  ·cases hr
 ·cases hr
theorem xPF{st0:St}:∀ {ts:List TypeId} {dn l:List SV} {st:St} {r:List SV} {st':St},xIE P st0 ts dn l st=some (r,st')->st'.obl=st.obl
 | [],dn,[],st,r,st',hr=>by
  simp only[xIE,Option.some.injEq,Prod.mk.injEq] at hr;rw[hr.2]
 | [],dn,_::_,st,r,st',hr=>by simp[xIE] at hr
 | _::_,dn,[],st,r,st',hr=>by simp[xIE] at hr
 | t::ts,dn,s::l,st,r,st',hr=>by
  unfold xIE at hr;split at hr
  ·split at hr
   ·cases hr
   split at hr
   ·rename_i st1 ho;exact(xPF hr).trans (yPL ho)
   ·cases hr
  ·exact xPF hr
theorem yYB{α:Type}:∀ {ss:List Nat} {l:List (Nat×α)} {s:Nat} {v:α},lk s (qVA ss l)=some v->lk s l=some v/\s∉ss
 | [],_,_,_,h=>⟨h,by simp⟩
 | x::r,l,s,v,h=>by
  obtain⟨h1,h2⟩:=qYA (n:=x) (show lk s (del x (qVA r l))=some v from h);obtain⟨h3,h4⟩:=yYB h2;exact⟨h3,by simp[Ne.symm h1,h4]⟩
theorem zPF{α:Type}:∀ {ss:List Nat} {l:List (Nat×α)} {s:Nat},s∉ss->lk s (qVA ss l)=lk s l
 | [],_,_,_=>rfl
 | x::r,l,s,h=>by
  simp only[List.mem_cons,not_or] at h;show lk s (del x (qVA r l))=_;rw[yOB (Ne.symm h.1),zPF h.2]
theorem Mem.fewer(h:Mem P X w0 J st g w)(ks:List Nat):Mem P X w0 J { st with objs:=qVA ks st.objs } g w/\(∀b,okOf st g w b->okOf { st with objs:=qVA ks st.objs } g w b) /\
  ∀o cs,o∈ks->lk o st.objs=some cs->okOf { st with objs:=qVA ks st.objs } g w (g.rb o):=by
 have hact:∀b,Actv { st with objs:=qVA ks st.objs } g b->Actv st g b:=by
  rintro b (⟨o,cs,h1,h2⟩|h1)
  ·exact .inl ⟨o,cs,(yYB h1).1,h2⟩
  ·exact .inr h1
 have hok:∀b,okOf st g w b->okOf { st with objs:=qVA ks st.objs } g w b:=fun b hb=>⟨hb.1,fun e=>hb.2.1 (hact b e),hb.2.2⟩
 refine⟨⟨fun n vi hn=>(h.va n vi hn).mono hok (fun _ _=>rfl) (fun _ _=>rfl),fun o cs ho=>h.ob o cs (yYB ho).1,fun o o' c c' h1 h2=>h.oo o o' c c' (yYB h1).1 (yYB h2).1,h.vv,
  fun o n c vi h1 h2=>h.ov o n c vi (yYB h1).1 h2,fun b hb=>h.lo b (hact b hb),h.lp,h.fr,h.lv,h.ex,h.gl⟩,hok,fun o cs ho hl=>?_⟩
 refine⟨(h.ob o cs hl).lt,?_,h.notEx (.inl ⟨o,cs,hl,rfl⟩)⟩;rintro(⟨p,c,h1,h2⟩|⟨n,vi,h1,h2⟩)
 ·obtain⟨h3,h4⟩:=yYB h1
  have:=h.oo p o c cs h3 hl h2
  exact h4 (this▸ho)
 ·exact h.ov o n cs vi hl h1 h2
theorem qQJ(vs:List Value)(sz:Nat)(hsz:∀v∈vs,v.cells.size=sz):∀(j:Nat) (v:Value),vs[j]? = some v -> ∀(k:Nat) (u:Value),v.cells.toList[k]? = some u->(vs.flatMap fun u=>u.cells.toList)[j*sz+k]? = some u:=by
 induction vs with
 | nil=>intro j v h;simp at h
 | cons x r ih =>
  intro j v hj k u hk;have hx:x.cells.toList.length=sz:=by rw[Array.length_toList];exact hsz x (by simp)
  rw[List.flatMap_cons];cases j with
  | zero =>
   simp only[List.getElem?_cons_zero,Option.some.injEq] at hj;subst hj;rw[Nat.zero_mul,Nat.zero_add,List.getElem?_append_left (List.getElem?_eq_some_iff.1 hk).1];exact hk
  | succ j =>
   simp only[List.getElem?_cons_succ] at hj;rw[List.getElem?_append_right (by rw[hx,Nat.add_mul];omega),hx]
   have:=ih (fun v hv=>hsz v (by simp[hv])) j v hj k u hk
   rw[<- this]
   congr 1
   rw[Nat.add_mul];omega
theorem xPI(h:Mem P X w0 J st g w)(he:Env X J st g a){st0:St}{g0:Gh}(hx:Ext st0 g0 st g){t:TypeId}{o k:Nat}{st':St}(hr:xOH P st0 t o k st=some st') :
  ∃g',Mem P X w0 J st' g' w/\Env X J st' g' a/\Ext st0 g0 st' g'/\(SV.x st.nx).den X J g'=(SV.osl o k).den X J g/\(∀s:SV,s.men st.nx=false->s.den X J g'=s.den X J g)/\st'.obl=st.obl:=by
 unfold xOH at hr;split at hr
 rotate_left
 ·cases hr
 rename_i cs e ho0 ho hu;split at hr
 rotate_left
 ·cases hr
 rename_i i hi;split at hr
 rotate_left
 ·cases hr
 rename_i hc;obtain⟨h8,hlen,hk⟩:=hc;split at hr
 rotate_left
 ·cases hr
 rename_i ds hds;split at hr
 rotate_left
 ·cases hr
 rename_i s3 hn;cases hr;obtain⟨hM,_⟩:=Mem.settles cs h;have hE:=he.settles cs;have hX:=Ext.settles st g cs;have hkeys:=xUA st cs;have hob:=h.ob o cs ho;have hoks:oks X J cs:=hob.2.2;obtain⟨vs,r1,r2,r3,r4,r5⟩:=qHD hM hi hoks hlen hds;have hobj:(settles st cs).objs=st.objs:=hkeys.2.1;have hfew:=hM.fewer (o::zED st0 st o);rw[hobj] at hfew;obtain⟨f1,f2,f3⟩:=hfew;have hokb:=f3 o cs (by simp) ho;have hE2:Env X J { settles st cs with objs:=qVA (o::zED st0 st o) st.objs } g a:=hE.of_env rfl rfl;have hX2:Ext st0 g0 { settles st cs with objs:=qVA (o::zED st0 st o) st.objs } g:=by
  have hX1:=hx.trans hX;refine⟨hX1.rv,fun p c hp=>⟨?_,(hX1.rb p c hp).2⟩⟩;obtain⟨⟨c',h1⟩,_⟩:=hX1.rb p c hp;rw[hobj] at h1;refine⟨c',?_⟩;show lk p (qVA (o::zED st0 st o) st.objs)=_;rw[zPF ?_,h1];rw[List.mem_cons,not_or];refine⟨fun e=>?_,fun e=>?_⟩
  ·rw[e,ho0] at hp;cases hp
  ·unfold zED at e;obtain⟨q,hq,hqp⟩:=List.mem_map.1 e
   have:=(List.mem_filter.1 hq).2
   simp only[baZ,Option.isNone_iff_eq_none] at this;rw[hqp,hp] at this;cases this.1
 have hne8:P.underlying e≠some (.int .u8):=fun hh=>by simp[isU8,hh] at h8
 obtain⟨⟨ty,hblk⟩,_,_⟩:=hob;have hcell:∀(j:Nat) (v:Value),(dens X J g cs)[j]? = some v->w.cell? ⟨g.rb o,j,none⟩=some v:=fun j v hj=>by
  simp[World.cell?,hblk,hj]
 have hdl:ds.length=k:=r2;have hrep:Rep P (okOf { settles st cs with objs:=qVA (o::zED st0 st o) st.objs } g w) w t (.slice (some ⟨g.rb o,0,none⟩) k k) ((DE.f .mklist ds).eval X J):=by
  have e1:(DE.f .mklist ds).eval X J = .list (zDA X ds J):=rfl;rw[e1];have hl:(zDA X ds J).length=k:=by rw[yUA,r2]
  have main:=Rep.list (P:=P) (ok:=okOf { settles st cs with objs:=qVA (o::zED st0 st o) st.objs } g w) (w:=w) (t:=t) (e:=e) (cap:=k) (ad:=⟨g.rb o,0,none⟩) (i:=i) (vs:=vs) (ds:=zDA X ds J) hu hne8 hi (fun _=>⟨rfl,hokb⟩)
   (by rw[hl,r1]) (by rw[hl];exact Nat.le_refl _) (by simp[maxLen];omega) r4 (fun j v hj m u hm=>?_) (fun j v d hj hd=>?_)
  ·rw[hl] at main;exact main
  ·have:=qQJ vs i.size r4 j v hj m u hm
   rw[r3] at this
   have:=hcell _ _ this
   simpa[Nat.zero_add] using this
  ·obtain⟨x,hx',rfl⟩:=yDH hd;exact(r5 j v x hj hx').mono f2 (fun _ _=>rfl)
 obtain⟨k1,k2,k3,k4,k5⟩:=qHC f1 hE2 (Fr.refl (fun _=>False) w) hn (v:=.slice (some ⟨g.rb o,0,none⟩) k k) (fun ok' h1 _=>hrep.mono h1 (fun _ _=>rfl));refine⟨_,k1.same rfl rfl rfl rfl,k2.of_env rfl rfl,(hX2.trans k3).same' rfl rfl,?_,fun s hs=>yCD X J g st.nx _ _ s hs,?_⟩
 ·rw[k4];rfl
 ·exact k5.trans hkeys.2.2.1
theorem yDJ{n:Nat}:∀ {l m:List SV},mens n (l++m)=false->mens n l=false/\mens n m=false
 | [],m,h=>⟨rfl,h⟩
 | a::l,m,h=>by
  simp only[List.cons_append,mens,Bool.or_eq_false_iff] at h;obtain⟨h1,h2⟩:=yDJ h.2;exact⟨by simp[mens,h.1,h1],h2⟩
theorem zTL{l m:List SV}(h1:oks X J l)(h2:oks X J m):oks X J (l++m):=by
 rw[yFA] at *;intro s hs;rcases List.mem_append.1 hs with h|h
 ·exact h1 s h
 ·exact h2 s h
theorem xQG{g:Gh}(l m:List SV):dens X J g (l++m)=dens X J g l++dens X J g m:=by rw[zSA,List.map_append,<- zSA,<- zSA]
theorem qGD{st0:St}{g0:Gh}:∀ {ts:List TypeId} {dn l:List SV} {st:St} {g:Gh} {r:List SV} {st':St},Mem P X w0 J st g w->Env X J st g a->Ext st0 g0 st g->oks X J dn->oks X J l->xIE P st0 ts dn l st=some (r,st') ->
  ∃g',Mem P X w0 J st' g' w/\Env X J st' g' a/\Ext st0 g0 st' g'/\dens X J g' r=dens X J g (dn++l)/\oks X J r/\st'.obl=st.obl
 | [],dn,[],st,g,r,st',h,he,hx,hd,hl,hr=>by
  simp only[xIE,Option.some.injEq,Prod.mk.injEq] at hr;obtain⟨rfl,rfl⟩:=hr;exact⟨g,h,he,hx,by rw[List.append_nil],hd,rfl⟩
 | [],dn,_::_,st,g,r,st',h,he,hx,hd,hl,hr=>by simp[xIE] at hr
 | _::_,dn,[],st,g,r,st',h,he,hx,hd,hl,hr=>by simp[xIE] at hr
 | t::ts,dn,s::l,st,g,r,st',h,he,hx,hd,hl,hr=>by
  unfold xIE at hr;split at hr
  ·rename_i o k;split at hr
   ·cases hr
   rename_i hm;have hm:mens st.nx (dn++l)=false:=by simpa using hm
   obtain⟨m1,m2⟩:=yDJ hm;split at hr
   rotate_left
   ·cases hr
   rename_i st1 ho;obtain⟨g1,q1,q2,q3,q4,q5,q6⟩:=xPI h he hx ho;obtain⟨g2,p1,p2,p3,p4,p5,p6⟩:=qGD (dn:=dn++[.x st.nx]) (l:=l) q1 q2 q3 (zTL hd (show oks X J [SV.x st.nx] from ⟨trivial,trivial⟩)) hl.2 hr;have hden:∀q:List SV,mens st.nx q=false->dens X J g1 q=dens X J g q:=by
    intro q
    induction q with
    | nil=>intro _;rfl
    | cons x q ih =>
     intro hq;simp only[mens,Bool.or_eq_false_iff] at hq;simp only[dens];rw[q5 x hq.1,ih hq.2]
   refine⟨g2,p1,p2,p3,?_,p5,p6.trans q6⟩;rw[p4,xQG,xQG,hden dn m1,hden l m2,xQG];have e1:dens X J g1 [SV.x st.nx]=[(SV.osl o k).den X J g]:=by simp only[dens];rw[q4]
   rw[e1];simp[dens]
  ·obtain⟨g2,p1,p2,p3,p4,p5,p6⟩:=qGD (dn:=dn++[s]) (l:=l) h he hx (zTL hd (show oks X J [s] from ⟨hl.1,trivial⟩)) hl.2 hr;exact⟨g2,p1,p2,p3,by rw[p4,List.append_assoc];rfl,p5,p6⟩
theorem xRI{st0:St}{g0:Gh}{t:TypeId}{s r:SV}{st':St}(h:Mem P X w0 J st g w)(he:Env X J st g a)(hx:Ext st0 g0 st g)(hs:s.ok X J)(hr:restR P st0 t s st=some (r,st')) :
  ∃g',Mem P X w0 J st' g' w/\Env X J st' g' a/\Ext st0 g0 st' g'/\r.den X J g'=s.den X J g/\r.ok X J/\st'.obl=st.obl:=by
 unfold restR at hr;split at hr
 ·rename_i l;split at hr
  ·split at hr
   ·rename_i l' st1 hc;cases hr;obtain⟨g',k1,k2,k3,k4,k5,k6⟩:=qGD (dn:=[]) h he hx trivial (by simpa only[SV.ok] using hs) hc;exact⟨g',k1,k2,k3,by simp only[SV.den];rw[k4,List.nil_append],by simpa only[SV.ok] using k5,k6⟩
   ·cases hr
  ·cases hr
 ·cases hr
theorem qDG{C:Cfg}{ex:ExecF}(hex:ExOk C.P X Pre ex){f:FuncId}{as:List SV}{s:SV}{st':St}(h:Mem C.P X w0 J st g w)(he:Env X J st g a)(has:oks X J as)(hi:xVD C ex f as st=some (s,st'))(hob:zCA X Pre st'.obl J) :
  (∃fn c,C.P.funcs[f]? = some fn/\fn.body=some c) /\
  Calls C.P f (dens X J g as).toArray w fun e w'=>∃g',e = .returned (s.den X J g')/\Ext st g st' g'/\Mem C.P X w0 J st' g' w'/\Env X J st' g' a/\s.ok X J:=by
 unfold xVD at hi;split at hi
 rotate_left
 ·cases hi
 rename_i s1 st1 h1;split at hi
 rotate_left
 ·cases hi
 rename_i fn hfn;split at hi
 ·rename_i r hr;cases hi;have hob1:zCA X Pre st1.obl J:=by
   have hk:st'.obl=st1.obl:=by
    unfold restR at hr;split at hr
    ·split at hr
     ·split at hr
      ·rename_i l' st2 hc;cases hr;exact xPF hc
      ·cases hr
     ·cases hr
    ·cases hr
   rw[<- hk];exact hob
  obtain⟨q1,q2⟩:=xDD hex h he has h1 hob1;refine⟨q1,q2.mono fun e w' hh=>?_⟩;obtain⟨g',rfl,k1,k2,k3,k4⟩:=hh;obtain⟨g2,m1,m2,m3,m4,m5,_⟩:=xRI k2 k3 k1 k4 hr;exact⟨g2,by rw[m4],m3,m1,m2,m5⟩
 ·cases hi;exact xDD hex h he has h1 hob
end
end Go.Dx
namespace Go.Dx
open Go
section
variable {P:Program} {X:Nat->List D->D} {Pre:Nat->List D->Prop} {w0:Base} {J:List D} {st:St} {g:Gh} {w:World} {a:Act}
def LoopOk(P:Program)(X:Nat->List D->D)(Pre:Nat->List D->Prop):Prop :=
 ∀(ex:ExecF),ExOk P X Pre ex -> ∀(lp:LoopP) (i:Nat) (b:Code),xZC (.block i b)=some lp -> ∀(st:St) (outs:List Out),∀(hn:Nat->Nat->Nat->Option Hint),loopS P hn ex st lp=some outs ->
  (∀o∈outs,∀x∈st.obl,x∈o.st.obl)/\(∀J,∃o∈outs,PcOk X J o.pc) /\ ∀(w0:Base) (J:List D) (g:Gh) (w:World) (a:Act),Mem P X w0 J st g w->Env X J st g a->(∀o∈outs,PcOk X J o.pc->zCA X Pre o.st.obl J) ->
   ∀Q:Exit->Act->World->Prop,(∀o∈outs,PcOk X J o.pc -> ∀g' w' a',Ext st g o.st g'->Mem P X w0 J o.st g' w'->Env X J o.st g' a'->Q o.ex.toExit a' w')->(Code.block i b).wp P Q a w
def yTK(P:Program)(X:Nat->List D->D)(Pre:Nat->List D->Prop):Prop :=
 ∀(ex:ExecF),ExOk P X Pre ex -> ∀(i:Nat) (b:Code) (st st':St),loopW P ex st i b=some st' ->
  (∀x∈st.obl,x∈st'.obl) /\ ∀(w0:Base) (J:List D) (g:Gh) (w:World) (a:Act),Mem P X w0 J st g w->Env X J st g a->zCA X Pre st'.obl J ->
   ∀Q:Exit->Act->World->Prop,(∀g' w' a',Ext st g st' g'->Mem P X w0 J st' g' w'->Env X J st' g' a'->Q .normal a' w')->(Code.block i (.loop b)).wp P Q a w
theorem xMG{C:Cfg}(hctr:∀f c,C.ctr f=some c->qRA C.P X Pre f c){ex:ExecF}(hex:ExOk C.P X Pre ex):qFC C.P X Pre (qUA C (xVD C ex)):=by
 intro w0 J f as n st s st' g w a h he has hc hob;have inl:∀ {s:SV} {st':St},xVD C ex f as { st with nx:=n }=some (s,st')->zCA X Pre st'.obl J->(∃fn c,C.P.funcs[f]? = some fn/\fn.body=some c) /\
   Calls C.P f (dens X J g as).toArray w fun e w'=>∃g',e = .returned (s.den X J g')/\Ext st g st' g'/\Mem C.P X w0 J st' g' w'/\Env X J st' g' a/\s.ok X J:=fun hc hob=>by
  have h':Mem C.P X w0 J { st with nx:=n } g w:=h.same rfl rfl rfl rfl;have he':Env X J { st with nx:=n } g a:=he.of_env rfl rfl;obtain⟨h1,h2⟩:=qDG hex h' he' has hc hob;refine⟨h1,h2.mono fun e w' hh=>?_⟩;obtain⟨g',k1,k2,k3,k4,k5⟩:=hh;exact⟨g',k1,k2.same (s2:=st) rfl rfl,k3,k4,k5⟩
 unfold qUA at hc;split at hc
 ·rename_i c hf;split at hc
  ·rename_i q hq;cases hc;exact zRI (hctr f c hf) h he has hq hob
  ·split at hc
   ·exact inl hc hob
   ·cases hc
 ·exact inl hc hob
def zEI(P:Program)(c x:Code)(Q:Exit->Act->World->Prop)(a:Act)(w:World):Prop :=
 ∀(b:Frame) (k:List Item) (cs:List Frame),∃e a' w',Q e a' w'/\Arrives P (lone (b.at a (.code x :: .inScope c::k)) cs w) b k cs e a' w'
def xYH(P:Program)(c:Code)(Q:Exit->Act->World->Prop):Exit->Act->World->Prop
 | .goto l,a,w=>∃rest,findLabel c l=some rest/\zEI P c rest Q a w
 | e,a,w=>Q e a w
theorem yYG{c x:Code}{Q:Exit->Act->World->Prop}(h:x.wp P (xYH P c Q) a w):zEI P c x Q a w:=by
 intro b k cs;obtain⟨e,a₁,w₁,hq,harr⟩:=h b (.inScope c::k) cs;cases e with
 | normal=>exact⟨.normal,a₁,w₁,hq,Steps.trans harr (.one step_inScope)⟩
 | exit id=>exact⟨.exit id,a₁,w₁,hq,fun k' hk=>harr k' (by simp[exitTo,hk])⟩
 | goto l =>
  obtain⟨rest,hf,hs⟩:=hq;obtain⟨e₂,a₂,w₂,hq₂,harr₂⟩:=hs b k cs;exact⟨e₂,a₂,w₂,hq₂,.of_steps (harr _ (by simp[gotoIn,hf])) harr₂⟩
 | ret=>exact⟨_,a₁,w₁,hq,harr⟩
 | panic ch=>exact⟨_,a₁,w₁,hq,harr⟩
 | outgrown=>exact⟨_,a₁,w₁,hq,harr⟩
theorem qPI{c:Code}{Q:Exit->Act->World->Prop}(h:zEI P c c Q a w):(Code.scope c).wp P Q a w:=by
 intro b k cs;obtain⟨e,a₁,w₁,hq,harr⟩:=h b k cs;exact⟨e,a₁,w₁,hq,.of_steps (.one step_scope) harr⟩
theorem xWF{ex:ExecF}(hex:ExOk P X Pre ex){c:Code}:∀ {k:Nat} {outs fin:List Out},xXH ex c k outs=some fin ->
  (∀o∈fin,∃o'∈outs,∀x∈o'.st.obl,x∈o.st.obl)/\(∀(J:List D),∀o∈outs,PcOk X J o.pc -> ∃q∈fin,PcOk X J q.pc /\ ∀x∈o.st.obl,x∈q.st.obl) /\
  ∀(w0:Base) (J:List D) (st0:St) (g0:Gh) (Q:Exit->Act->World->Prop),(∀o∈fin,PcOk X J o.pc->zCA X Pre o.st.obl J) ->
   (∀o∈fin,PcOk X J o.pc -> ∀g' w' a',Ext st0 g0 o.st g'->Mem P X w0 J o.st g' w'->Env X J o.st g' a'->Q o.ex.toExit a' w') ->
   ∀o∈outs,PcOk X J o.pc -> ∀g' w' a',Ext st0 g0 o.st g'->Mem P X w0 J o.st g' w'->Env X J o.st g' a'->xYH P c Q o.ex.toExit a' w'
 | 0,outs,fin,h=>by simp[xXH] at h
 | k+1,outs,fin,h=>by
  change xWH ex c (xXH ex c k) outs=some fin at h
  induction outs generalizing fin with
  | nil =>
   simp only[xWH,Option.some.injEq] at h;subst h;exact⟨by simp,by simp,by simp⟩
  | cons o r ihr =>
   simp only[xWH] at h;split at h
   ·cases h
   rename_i r' hr;obtain⟨i1,i2,i3⟩:=ihr _ hr;have other:(∀l,o.ex ≠ .goto l)->fin=o::r'->_:=fun hne hfin=>(show (∀o1∈fin,∃o'∈o::r,∀x∈o'.st.obl,x∈o1.st.obl)/\(∀(J:List D),∀o1∈o::r,PcOk X J o1.pc -> ∃q∈fin,PcOk X J q.pc /\ ∀x∈o1.st.obl,x∈q.st.obl) /\
     ∀(w0:Base) (J:List D) (st0:St) (g0:Gh) (Q:Exit->Act->World->Prop),(∀o∈fin,PcOk X J o.pc->zCA X Pre o.st.obl J) ->
     (∀o∈fin,PcOk X J o.pc -> ∀g' w' a',Ext st0 g0 o.st g'->Mem P X w0 J o.st g' w'->Env X J o.st g' a'->Q o.ex.toExit a' w') ->
     ∀o1∈o::r,PcOk X J o1.pc -> ∀g' w' a',Ext st0 g0 o1.st g'->Mem P X w0 J o1.st g' w'->Env X J o1.st g' a'->xYH P c Q o1.ex.toExit a' w' by
    subst hfin;refine⟨fun o1 ho1=>?_,fun J o1 ho1 hpc=>?_,fun w0 J st0 g0 Q hob hQ o1 ho1 hpc g' w' a' k1 k2 k3=>?_⟩
    ·rcases List.mem_cons.1 ho1 with rfl|ho1
     ·exact⟨_,List.mem_cons_self,fun x hx=>hx⟩
     ·obtain⟨o',h1,h2⟩:=i1 o1 ho1;exact⟨o',List.mem_cons_of_mem _ h1,h2⟩
    ·rcases List.mem_cons.1 ho1 with rfl|ho1
     ·exact⟨_,List.mem_cons_self,hpc,fun x hx=>hx⟩
     ·obtain⟨q,h1,h2⟩:=i2 J o1 ho1 hpc;exact⟨q,List.mem_cons_of_mem _ h1,h2⟩
    ·rcases List.mem_cons.1 ho1 with rfl|ho1
     ·have hq:=hQ _ List.mem_cons_self hpc g' w' a' k1 k2 k3;cases hx:o1.ex with
      | goto l=>exact absurd hx (hne l)
      | norm=>rw[hx] at hq;exact hq
      | exit i=>rw[hx] at hq;exact hq
      | ret=>rw[hx] at hq;exact hq
     ·exact i3 w0 J st0 g0 Q (fun q hq=>hob q (List.mem_cons_of_mem _ hq)) (fun q hq=>hQ q (List.mem_cons_of_mem _ hq)) o1 ho1 hpc g' w' a' k1 k2 k3)
   split at h
   ·rename_i l hx;split at h
    rotate_left
    ·cases h
    rename_i rest hf;split at h
    rotate_left
    ·cases h
    rename_i o2 ho2;split at h
    rotate_left
    ·cases h
    rename_i o3 ho3;cases h;obtain⟨j1,j2,j3⟩:=xWF hex ho3;refine⟨fun o1 ho1=>?_,fun J o1 ho1 hpc=>?_,fun w0 J st0 g0 Q hob hQ o1 ho1 hpc g' w' a' k1 k2 k3=>?_⟩
    ·rcases List.mem_append.1 ho1 with ho1|ho1
     ·obtain⟨q,hq,rfl⟩:=List.mem_map.1 ho1;obtain⟨q',hq',hqo⟩:=j1 q hq;exact⟨o,List.mem_cons_self,fun x hx=>hqo x (hex.obl _ _ _ ho2 q' hq' x hx)⟩
     ·obtain⟨o',h1,h2⟩:=i1 o1 ho1;exact⟨o',List.mem_cons_of_mem _ h1,h2⟩
    ·rcases List.mem_cons.1 ho1 with rfl|ho1
     ·obtain⟨q,hq,hqp⟩:=hex.total J _ _ _ ho2;obtain⟨y,hy,hyp,hyo⟩:=j2 J q hq hqp;exact⟨_,List.mem_append_left _ (List.mem_map.2 ⟨y,hy,rfl⟩),PcOk.append.2 ⟨hpc,hyp⟩,fun x hx=>hyo x (hex.obl _ _ _ ho2 q hq x hx)⟩
     ·obtain⟨q,h1,h2⟩:=i2 J o1 ho1 hpc;exact⟨q,List.mem_append_right _ h1,h2⟩
    ·rcases List.mem_cons.1 ho1 with rfl|ho1
     ·rw[hx];refine⟨rest,hf,yYG (zWA (Q:=xYH P c Q) ?_)⟩;have hob3:∀q∈o3,PcOk X J q.pc->zCA X Pre q.st.obl J:=fun q hq hqp=>hob ⟨o1.pc++q.pc,q.ex,q.st⟩ (List.mem_append_left _ (List.mem_map.2 ⟨q,hq,rfl⟩)) (PcOk.append.2 ⟨hpc,hqp⟩)
      have hob2:∀q∈o2,PcOk X J q.pc->zCA X Pre q.st.obl J:=fun q hq hqp=>by
       obtain⟨y,hy,hyp,hyo⟩:=j2 J q hq hqp;exact zJA.2 fun x hx=>zJA.1 (hob3 y hy hyp) x (hyo x hx)
      refine hex.sound w0 J [rest] o1.st o2 g' w' a' k2 k3 ho2 hob2 _ (fun q hq hqp g2 w2 a2 m1 m2 m3=>?_);exact j3 w0 J o1.st g' Q hob3 (fun y hy hyp g3 w3 a3 n1 n2 n3=>hQ ⟨o1.pc++y.pc,y.ex,y.st⟩ (List.mem_append_left _ (List.mem_map.2 ⟨y,hy,rfl⟩)) (PcOk.append.2 ⟨hpc,hyp⟩) g3 w3 a3 (k1.trans n1) n2 n3) q hq hqp g2 w2 a2 m1 m2 m3
     ·exact i3 w0 J st0 g0 Q (fun q hq=>hob q (List.mem_append_right _ hq)) (fun q hq=>hQ q (List.mem_append_right _ hq)) o1 ho1 hpc g' w' a' k1 k2 k3
   ·rename_i hne;cases h;exact other (fun l e=>hne l e) rfl
theorem yIB{ex:ExecF}(hex:ExOk P X Pre ex){b:Code}:∀ {k:Nat} {st:St} {outs:List Out},qMF ex b k st=some outs ->
  (∀o∈outs,∀x∈st.obl,x∈o.st.obl)/\(∀J,∃o∈outs,PcOk X J o.pc) /\ ∀(w0:Base) (J:List D) (g:Gh) (w:World) (a:Act),Mem P X w0 J st g w->Env X J st g a->(∀o∈outs,PcOk X J o.pc->zCA X Pre o.st.obl J) ->
   ∀Q:Exit->Act->World->Prop,(∀o∈outs,PcOk X J o.pc -> ∀g' w' a',Ext st g o.st g'->Mem P X w0 J o.st g' w'->Env X J o.st g' a'->Q o.ex.toExit a' w')->Code.rounds P b Q k a w
 | 0,st,outs,h=>by simp[qMF] at h
 | k+1,st,outs,h=>by
  simp only[qMF] at h;split at h
  rotate_left
  ·cases h
  rename_i o1 ho1;refine⟨fun o ho x hx=>?_,fun J=>?_,fun w0 J g w a hm he hob Q hQ=>?_⟩
  ·rcases yLB h o ho with⟨h1,_⟩|⟨o',ho',_,q,hq,y,hy,rfl⟩
   ·exact hex.obl _ _ _ ho1 o h1 x hx
   ·exact(yIB hex hq).1 y hy x (hex.obl _ _ _ ho1 o' ho' x hx)
  ·obtain⟨o,ho,hpc⟩:=hex.total J _ _ _ ho1;obtain⟨h1,h2⟩:=xHA h o ho;by_cases hn:o.ex = .norm
   ·obtain⟨q,hq,hall⟩:=h2 hn;obtain⟨x,hx,hxp⟩:=(yIB hex hq).2.1 J;exact⟨_,hall x hx,PcOk.append.2 ⟨hpc,hxp⟩⟩
   ·exact⟨o,h1 hn,hpc⟩
  ·show b.wp P (Exit.then (Code.rounds P b Q k) Q) a w;refine zWA (hex.sound w0 J [b] st o1 g w a hm he ho1 (fun o ho hpc=>?_) _ (fun o ho hpc g' w' a' k1 k2 k3=>?_))
   ·obtain⟨h1,h2⟩:=xHA h o ho;by_cases hn:o.ex = .norm
    ·obtain⟨q,hq,hall⟩:=h2 hn;obtain⟨x,hx,hxp⟩:=(yIB hex hq).2.1 J;have hh:zCA X Pre x.st.obl J:=hob ⟨o.pc++x.pc,x.ex,x.st⟩ (hall x hx) (PcOk.append.2 ⟨hpc,hxp⟩);exact zJA.2 fun y hy=>zJA.1 hh y ((yIB hex hq).1 x hx y hy)
    ·exact hob o (h1 hn) hpc
   ·obtain⟨h1,h2⟩:=xHA h o ho;by_cases hn:o.ex = .norm
    ·obtain⟨q,hq,hall⟩:=h2 hn;rw[hn];exact(yIB hex hq).2.2 w0 J g' w' a' k2 k3 (fun x hx hxp=>hob ⟨o.pc++x.pc,x.ex,x.st⟩ (hall x hx) (PcOk.append.2 ⟨hpc,hxp⟩)) Q (fun x hx hxp g2 w2 a2 m1 m2 m3=>hQ ⟨o.pc++x.pc,x.ex,x.st⟩ (hall x hx) (PcOk.append.2 ⟨hpc,hxp⟩) g2 w2 a2 (k1.trans m1) m2 m3)
    ·exact yDE hn (hQ o (h1 hn) hpc g' w' a' k1 k2 k3)
theorem qDK{C:Cfg}(hnm:xJA C.P)(hord:C.P.follows .mixedOrders=true)(hctr:∀f c,C.ctr f=some c->qRA C.P X Pre f c)(hloop:LoopOk C.P X Pre)(hwhile:yTK C.P X Pre):∀n dp,ExOk C.P X Pre (exec C n dp)
 | 0,dp=>⟨fun _ _ l st outs _ _ _ _ _ h=>by simp[exec] at h,fun l st outs h=>by simp[exec] at h,fun _ l st outs h=>by simp[exec] at h⟩
 | n+1,dp=>by
  have ih:=qDK hnm hord hctr hloop hwhile n;have hcall:∀dp,qFC C.P X Pre (qUA C (xVD C (exec C n dp))):=fun dp=>xMG hctr (ih dp)
  have key:∀(l:List Code) (st:St) (outs:List Out),exec C (n+1) dp l st=some outs ->
    (∀o∈outs,∀x∈st.obl,x∈o.st.obl)/\(∀J,∃o∈outs,PcOk X J o.pc) /\
    ∀(w0:Base) (J:List D) (g:Gh) (w:World) (a:Act),Mem C.P X w0 J st g w->Env X J st g a->(∀o∈outs,PcOk X J o.pc->zCA X Pre o.st.obl J) -> ∀Q:Exit->Act->World->Prop,
     (∀o∈outs,PcOk X J o.pc -> ∀g' w' a',Ext st g o.st g'->Mem C.P X w0 J o.st g' w'->Env X J o.st g' a'->Q o.ex.toExit a' w')->wpC C.P Q l a w:=by
   intro l st outs h;cases l with
   | nil =>
    simp only[exec,Option.some.injEq] at h;subst h;refine⟨by simp,fun J=>⟨_,List.mem_singleton.2 rfl,PcOk.nil⟩,fun w0 J g w a hm he hob Q hQ=>?_⟩;exact hQ ⟨[],.norm,st⟩ (by simp) PcOk.nil g w a (Ext.refl st g) hm he
   | cons c r =>
    cases c with
    | skip =>
     simp only[exec] at h;refine⟨(ih dp).obl r st outs h,fun J=>(ih dp).total J r st outs h,fun w0 J g w a hm he hob Q hQ=>?_⟩;exact wp_skip ((ih dp).sound w0 J r st outs g w a hm he h hob Q hQ)
    | seq x y =>
     simp only[exec] at h;refine⟨(ih dp).obl _ st outs h,fun J=>(ih dp).total J _ st outs h,fun w0 J g w a hm he hob Q hQ=>?_⟩;have hs:=(ih dp).sound w0 J _ st outs g w a hm he h hob Q hQ;show (Code.seq x y).wp C.P (Exit.then (wpC C.P Q r) Q) a w;refine wp_seq ?_;have hs':x.wp C.P (Exit.then (fun a w=>y.wp C.P (Exit.then (wpC C.P Q r) Q) a w) Q) a w:=hs;rw[qRH];exact hs'
    | ret =>
     simp only[exec,Option.some.injEq] at h;subst h;refine⟨by simp,fun J=>⟨_,List.mem_singleton.2 rfl,PcOk.nil⟩,fun w0 J g w a hm he hob Q hQ=>?_⟩;exact wp_ret (hQ ⟨[],.ret,st⟩ (by simp) PcOk.nil g w a (Ext.refl st g) hm he)
    | exit i =>
     simp only[exec,Option.some.injEq] at h;subst h;refine⟨by simp,fun J=>⟨_,List.mem_singleton.2 rfl,PcOk.nil⟩,fun w0 J g w a hm he hob Q hQ=>?_⟩;exact wp_exit (hQ ⟨[],.exit i,st⟩ (by simp) PcOk.nil g w a (Ext.refl st g) hm he)
    | region id ops draw =>
     simp only[exec] at h;split at h
     ·rename_i st1 hreg;have hst1:∀x∈st.obl,x∈st1.obl:=xLI hreg;refine⟨fun o ho x hx=>(ih dp).obl r _ outs h o ho x (hst1 x hx),fun J=>(ih dp).total J r _ outs h,fun w0 J g w a hm he hob Q hQ=>?_⟩;have hob1:zCA X Pre st1.obl J:=by
       obtain⟨o,ho,hpc⟩:=(ih dp).total J r _ outs h;exact zJA.2 fun x hx=>zJA.1 (hob o ho hpc) x ((ih dp).obl r _ outs h o ho x hx)
      show (Code.region id ops draw).wp C.P (Exit.then (wpC C.P Q r) Q) a w;exact qSG hnm hord (hcall (dp-1)) hm he hreg hob1 (fun g' w' a' k1 k2 k3 =>
       (ih dp).sound w0 J r st1 outs g' w' a' k2 k3 h hob Q (fun o ho hpc g2 w2 a2 m1 m2 m3=>hQ o ho hpc g2 w2 a2 (k1.trans m1) m2 m3))
     ·split at h
      rotate_left
      ·cases h
      rename_i s1 s2 htwo _;split at h
      rotate_left
      ·cases h
      rename_i t1 ht1;split at h
      rotate_left
      ·cases h
      rename_i t2 ht2;split at h
      rotate_left
      ·cases h
      rename_i m hj;cases h;obtain⟨b1,b2⟩:=qTG htwo;have e1:=fun x hx=>(ih dp).obl r _ _ ht1 _ (List.mem_singleton.2 rfl) x hx
      have e2:=fun x hx=>(ih dp).obl r _ _ ht2 _ (List.mem_singleton.2 rfl) x hx
      refine⟨fun o ho x hx=>?_,fun J=>⟨_,List.mem_singleton.2 rfl,PcOk.nil⟩,fun w0 J g w a hm he hob Q hQ=>?_⟩
      ·rw[List.mem_singleton] at ho;subst ho
       exact(yHF (P:=C.P) (X:=X) (w0:=⟨default,fun _=>True,fun _=>False⟩) (J:=[]) hj).1 x (e1 x (b1 x hx))
      ·obtain⟨c1,c2,c3⟩:=yHF (P:=C.P) (X:=X) (w0:=w0) (J:=J) hj;have hobm:zCA X Pre m.obl J:=hob _ (List.mem_singleton.2 rfl) PcOk.nil;have hot1:zCA X Pre t1.obl J:=zJA.2 fun x hx=>zJA.1 hobm x (c1 x hx)
       have hot2:zCA X Pre t2.obl J:=zJA.2 fun x hx=>zJA.1 hobm x (c2 x hx)
       show (Code.region id ops true).wp C.P (Exit.then (wpC C.P Q r) Q) a w;refine xLF hnm hord (hcall (dp-1)) hm he htwo (zJA.2 fun x hx=>zJA.1 hot1 x (e1 x hx)) (zJA.2 fun x hx=>zJA.1 hot2 x (e2 x hx)) (fun g' w' a' k1 k2 k3=>?_) (fun g' w' a' k1 k2 k3=>?_)
       ·refine(ih dp).sound w0 J r s1 _ g' w' a' k2 k3 ht1 (fun o ho _=>by rw[List.mem_singleton] at ho;subst ho;exact hot1) Q (fun o ho hpc g2 w2 a2 m1 m2 m3=>?_);rw[List.mem_singleton] at ho;subst ho
        obtain⟨g3,n1,n2,n3⟩:=c3 true g g2 w2 a2 m2 m3 (k1.trans m1);exact hQ _ (List.mem_singleton.2 rfl) PcOk.nil g3 w2 a2 n3 n1 n2
       ·refine(ih dp).sound w0 J r { s2 with nx:=max t1.nx s2.nx } [⟨[],.norm,t2⟩] g' w' a' (k2.same rfl rfl rfl rfl) (k3.of_env rfl rfl) ht2 (fun o ho _=>by rw[List.mem_singleton] at ho;subst ho;exact hot2) Q (fun o ho hpc g2 w2 a2 m1 m2 m3=>?_);rw[List.mem_singleton] at ho;subst ho
        obtain⟨g3,n1,n2,n3⟩:=c3 false g g2 w2 a2 m2 m3 (k1.trans (m1.same (s2:=s2) rfl rfl));exact hQ _ (List.mem_singleton.2 rfl) PcOk.nil g3 w2 a2 n3 n1 n2
    | cond cnd t e =>
     simp only[exec] at h;split at h
     ·rename_i b hopd;refine⟨(ih dp).obl _ st outs h,fun J=>(ih dp).total J _ st outs h,fun w0 J g w a hm he hob Q hQ=>?_⟩;have hs:=(ih dp).sound w0 J _ st outs g w a hm he h hob Q hQ;have hc:a.eval cnd = .bool b:=by rw[yGA he hopd];rfl
      show (Code.cond cnd t e).wp C.P (Exit.then (wpC C.P Q r) Q) a w;refine wp_cond hc ?_;cases b <;> exact hs
     ·rename_i d hnb hopd;split at h
      ·cases h
      rename_i o1 ho1;split at h
      ·cases h
      rename_i o2 ho2;generalize hnx:o1.foldl (fun m o=>max m o.st.nx) st.nx=nx at ho2;have hcond:∀(J:List D) (g:Gh) (w:World) (a:Act) (K:Exit->Act->World->Prop),Env X J st g a->((d.eval X J).asBool=true->t.wp C.P K a w)->((d.eval X J).asBool=false->e.wp C.P K a w)->(Code.cond cnd t e).wp C.P K a w:=fun J g w a K he h1 h2=>by
       have hc:a.eval cnd = .bool (d.eval X J).asBool:=by rw[yGA he hopd];rfl
       exact wp_cond_split hc h1 h2
      split at h
      ·rename_i m hjoin;have hj:∃s1 s2,o1=[⟨[],.norm,s1⟩]/\o2=[⟨[],.norm,s2⟩]/\zAG C.P d st s1 s2=some m:=by
        unfold joinF at hjoin;split at hjoin
        ·cases hjoin
        unfold joinS at hjoin;split at hjoin
        ·exact⟨_,_,rfl,rfl,hjoin⟩
        ·cases hjoin
       obtain⟨s1,s2,rfl,rfl,hmg⟩:=hj;have hmobl:=zPE hmg;refine⟨fun o ho x hx=>(ih dp).obl r m outs h o ho x (by rw[hmobl];exact List.mem_append_right _ hx),fun J=>(ih dp).total J r m outs h,fun w0 J g w a hm he hob Q hQ=>?_⟩;have hob1:zCA X Pre m.obl J:=by
        obtain⟨o,ho,hpc⟩:=(ih dp).total J r m outs h;exact zJA.2 fun x hx=>zJA.1 (hob o ho hpc) x ((ih dp).obl r m outs h o ho x hx)
       rw[hmobl] at hob1;obtain⟨hw1,hw2⟩:=qIA (zUA.1 hob1).1;have hmem:∀nx,Mem C.P X w0 J { st with obl:=[],nx:=nx } g w:=fun nx=>hm.same rfl rfl rfl rfl
       have henv:∀nx,Env X J { st with obl:=[],nx:=nx } g a:=fun nx=>he.of_env rfl rfl
       have side:∀(bb:Bool) (s:St) (g':Gh) (w':World) (a':Act),(d.eval X J).asBool=bb->s=sel bb s1 s2->Ext st g s g'->Mem C.P X w0 J s g' w'->Env X J s g' a'->Exit.then (wpC C.P Q r) Q .normal a' w':=by
        intro bb s g' w' a' hbb hs k1 k2 k3;subst hs;obtain⟨g2,q1,q2,q3⟩:=yAB bb hbb k2 k3 k1 hmg;exact(ih dp).sound w0 J r m outs g2 w' a' q1 q2 h hob Q (fun o ho hpc g3 w3 a3 m1 m2 m3=>hQ o ho hpc g3 w3 a3 (q3.trans m1) m2 m3)
       show (Code.cond cnd t e).wp C.P (Exit.then (wpC C.P Q r) Q) a w;refine hcond J g w a _ he (fun hb=>?_) (fun hb=>?_)
       ·refine zWA ((ih dp).sound w0 J [t] { st with obl:=[] } _ g w a (hm.same rfl rfl rfl rfl) (he.of_env rfl rfl) ho1 (fun o ho _=>?_) _ (fun o ho _ g' w' a' k1 k2 k3=>?_))
        ·simp only[List.mem_singleton] at ho;subst ho;exact hw1 hb
        ·simp only[List.mem_singleton] at ho;subst ho
         exact side true s1 g' w' a' hb rfl (k1.same (s2:=st) rfl rfl) k2 k3
       ·refine zWA ((ih dp).sound w0 J [e] { st with obl:=[],nx:=nx } _ g w a (hmem nx) (henv nx) ho2 (fun o ho _=>?_) _ (fun o ho _ g' w' a' k1 k2 k3=>?_))
        ·simp only[List.mem_singleton] at ho;subst ho;exact hw2 hb
        ·simp only[List.mem_singleton] at ho;subst ho
         exact side false s2 g' w' a' hb rfl (k1.same (s2:=st) rfl rfl) k2 k3
      ·skip
       split at h
       ·rename_i l0 hl0;cases h;have h:=hl0;generalize hL:(o1.map (fun o=>(⟨(d,true)::o.pc,o.ex,{ o.st with obl:=o.st.obl++st.obl }⟩:Out))++o2.map (fun o=>(⟨(d,false)::o.pc,o.ex,{ o.st with obl:=o.st.obl++st.obl }⟩:Out)))=L at h;have hLobl:∀o∈L,∀x∈st.obl,x∈o.st.obl:=by
         intro o ho x hx;rw[<- hL] at ho;rcases List.mem_append.1 ho with ho|ho
         ·obtain⟨q,hq,rfl⟩:=List.mem_map.1 ho;exact List.mem_append_right _ hx
         ·obtain⟨q,hq,rfl⟩:=List.mem_map.1 ho;exact List.mem_append_right _ hx
        have hLtot:∀J,∃o∈L,PcOk X J o.pc:=by
         intro J;rw[<- hL];cases hb:(d.eval X J).asBool with
         | true =>
          obtain⟨o,ho,hpc⟩:=(ih dp).total J [t] _ o1 ho1;exact⟨_,List.mem_append_left _ (List.mem_map.2 ⟨o,ho,rfl⟩),fun p hp=>by
           rcases List.mem_cons.1 hp with rfl|hp
           ·exact hb
           ·exact hpc p hp⟩
         | false =>
          obtain⟨o,ho,hpc⟩:=(ih dp).total J [e] _ o2 ho2;exact⟨_,List.mem_append_right _ (List.mem_map.2 ⟨o,ho,rfl⟩),fun p hp=>by
           rcases List.mem_cons.1 hp with rfl|hp
           ·exact hb
           ·exact hpc p hp⟩
        refine⟨fun o ho x hx=>?_,fun J=>?_,fun w0 J g w a hm he hob Q hQ=>?_⟩
        ·rcases yLB h o ho with⟨h1,_⟩|⟨o',ho',_,q,hq,y,hy,rfl⟩
         ·exact hLobl o h1 x hx
         ·exact(ih dp).obl r o'.st q hq y hy x (hLobl o' ho' x hx)
        ·obtain⟨o,ho,hpc⟩:=hLtot J;obtain⟨h1,h2⟩:=xHA h o ho;by_cases hn:o.ex = .norm
         ·obtain⟨q,hq,hall⟩:=h2 hn;obtain⟨x,hx,hxp⟩:=(ih dp).total J r o.st q hq;exact⟨_,hall x hx,PcOk.append.2 ⟨hpc,hxp⟩⟩
         ·exact⟨o,h1 hn,hpc⟩
        ·obtain⟨b1,b2⟩:=zZB (ih dp) h hob hQ;show (Code.cond cnd t e).wp C.P (Exit.then (wpC C.P Q r) Q) a w;refine hcond J g w a _ he (fun hb=>?_) (fun hb=>?_)
         ·have hin:∀o∈o1,PcOk X J o.pc->(⟨(d,true)::o.pc,o.ex,{ o.st with obl:=o.st.obl++st.obl }⟩:Out)∈L/\PcOk X J ((d,true)::o.pc):=fun o ho hpc=>⟨by
           rw[<- hL];exact List.mem_append_left _ (List.mem_map.2 ⟨o,ho,rfl⟩),fun p hp=>by
           rcases List.mem_cons.1 hp with rfl|hp
           ·exact hb
           ·exact hpc p hp⟩
          refine zWA ((ih dp).sound w0 J [t] { st with obl:=[] } _ g w a (hm.same rfl rfl rfl rfl) (he.of_env rfl rfl) ho1 (fun o ho hpc=>?_) _ (fun o ho hpc g' w' a' k1 k2 k3=>?_))
          ·have:=b1 _ (hin o ho hpc).1 (hin o ho hpc).2
           exact(zUA.1 this).1
          ·exact b2 _ (hin o ho hpc).1 (hin o ho hpc).2 g' w' a' ((k1.same (s2:=st) rfl rfl).same' rfl rfl) (k2.same rfl rfl rfl rfl) (k3.of_env rfl rfl)
         ·have hin:∀o∈o2,PcOk X J o.pc->(⟨(d,false)::o.pc,o.ex,{ o.st with obl:=o.st.obl++st.obl }⟩:Out)∈L/\PcOk X J ((d,false)::o.pc):=fun o ho hpc=>⟨by
           rw[<- hL];exact List.mem_append_right _ (List.mem_map.2 ⟨o,ho,rfl⟩),fun p hp=>by
           rcases List.mem_cons.1 hp with rfl|hp
           ·exact hb
           ·exact hpc p hp⟩
          refine zWA ((ih dp).sound w0 J [e] { st with obl:=[],nx:=nx } _ g w a (hm.same rfl rfl rfl rfl) (he.of_env rfl rfl) ho2 (fun o ho hpc=>?_) _ (fun o ho hpc g' w' a' k1 k2 k3=>?_))
          ·have:=b1 _ (hin o ho hpc).1 (hin o ho hpc).2
           exact(zUA.1 this).1
          ·exact b2 _ (hin o ho hpc).1 (hin o ho hpc).2 g' w' a' ((k1.same (s2:=st) rfl rfl).same' rfl rfl) (k2.same rfl rfl rfl rfl) (k3.of_env rfl rfl)
       ·split at h
        rotate_left
        ·cases h
        generalize hL:(o2.map (fun o=>(⟨o.pc,o.ex,{ o.st with obl:=o.st.obl++(zOG d::st.obl) }⟩:Out)))=L at h;have hLin:∀o∈o2,(⟨o.pc,o.ex,{ o.st with obl:=o.st.obl++(zOG d::st.obl) }⟩:Out)∈L:=fun o ho=>by rw[<- hL];exact List.mem_map.2 ⟨o,ho,rfl⟩
        have hLinv:∀o∈L,∃q∈o2,o=⟨q.pc,q.ex,{ q.st with obl:=q.st.obl++(zOG d::st.obl) }⟩:=fun o ho=>by
         rw[<- hL] at ho;obtain⟨q,hq,rfl⟩:=List.mem_map.1 ho;exact⟨q,hq,rfl⟩
        have hLobl:∀o∈L,∀x∈zOG d::st.obl,x∈o.st.obl:=by
         intro o ho x hx;obtain⟨q,hq,rfl⟩:=hLinv o ho;exact List.mem_append_right _ hx
        have hLtot:∀J,∃o∈L,PcOk X J o.pc:=by
         intro J;obtain⟨o,ho,hpc⟩:=(ih dp).total J [e] _ o2 ho2;exact⟨_,hLin o ho,hpc⟩
        refine⟨fun o ho x hx=>?_,fun J=>?_,fun w0 J g w a hm he hob Q hQ=>?_⟩
        ·rcases yLB h o ho with⟨h1,_⟩|⟨o',ho',_,q,hq,y,hy,rfl⟩
         ·exact hLobl o h1 x (List.mem_cons_of_mem _ hx)
         ·exact(ih dp).obl r o'.st q hq y hy x (hLobl o' ho' x (List.mem_cons_of_mem _ hx))
        ·obtain⟨o,ho,hpc⟩:=hLtot J;obtain⟨h1,h2⟩:=xHA h o ho;by_cases hn:o.ex = .norm
         ·obtain⟨q,hq,hall⟩:=h2 hn;obtain⟨x,hx,hxp⟩:=(ih dp).total J r o.st q hq;exact⟨_,hall x hx,PcOk.append.2 ⟨hpc,hxp⟩⟩
         ·exact⟨o,h1 hn,hpc⟩
        ·obtain⟨b1,b2⟩:=zZB (ih dp) h hob hQ;have hdead:(d.eval X J).asBool=true->False:=fun hb=>by
          obtain⟨o,ho,hpc⟩:=hLtot J
          have:=zJA.1 (b1 o ho hpc) (zOG d) (hLobl o ho _ List.mem_cons_self)
          have h0:zCA X Pre [.nz (.k (.int 0))] J:=this hb;exact h0.1 rfl
         show (Code.cond cnd t e).wp C.P (Exit.then (wpC C.P Q r) Q) a w;refine hcond J g w a _ he (fun hb=>(hdead hb).elim) (fun hb=>?_);refine zWA ((ih dp).sound w0 J [e] { st with obl:=[],nx:=nx } _ g w a (hm.same rfl rfl rfl rfl) (he.of_env rfl rfl) ho2 (fun o ho hpc=>?_) _ (fun o ho hpc g' w' a' k1 k2 k3=>?_))
         ·have:=b1 _ (hLin o ho) hpc
          exact(zUA.1 this).1
         ·exact b2 _ (hLin o ho) hpc g' w' a' ((k1.same (s2:=st) rfl rfl).same' rfl rfl) (k2.same rfl rfl rfl rfl) (k3.of_env rfl rfl)
     ·cases h
    | block i b =>
     simp only[exec] at h;split at h
     ·rename_i lp hlp;split at h
      ·rename_i o1 hl;obtain⟨h1,h2,h3⟩:=hloop (exec C n dp) (ih dp) lp i b (ySI hlp) st o1 C.hint hl;refine⟨fun o ho x hx=>?_,fun J=>?_,fun w0 J g w a hm he hob Q hQ=>?_⟩
       ·rcases yLB h o ho with⟨k1,_⟩|⟨o',ho',_,q,hq,y,hy,rfl⟩
        ·exact h1 o k1 x hx
        ·exact(ih dp).obl r o'.st q hq y hy x (h1 o' ho' x hx)
       ·obtain⟨o,ho,hpc⟩:=h2 J;obtain⟨k1,k2⟩:=xHA h o ho;by_cases hn:o.ex = .norm
        ·obtain⟨q,hq,hall⟩:=k2 hn;obtain⟨x,hx,hxp⟩:=(ih dp).total J r o.st q hq;exact⟨_,hall x hx,PcOk.append.2 ⟨hpc,hxp⟩⟩
        ·exact⟨o,k1 hn,hpc⟩
       ·obtain⟨b1,b2⟩:=zZB (ih dp) h hob hQ;show (Code.block i b).wp C.P (Exit.then (wpC C.P Q r) Q) a w;exact h3 w0 J g w a hm he b1 _ (fun o ho hpc g' w' a' k1 k2 k3=>b2 o ho hpc g' w' a' k1 k2 k3)
      ·cases h
     split at h
     ·rename_i b' _;split at h
      ·split at h
       rotate_left
       ·cases h
       rename_i o1 ho1;obtain⟨u1,u2,u3⟩:=yIB (ih dp) ho1;have hUobl:∀o∈xGB i o1,∀x∈st.obl,x∈o.st.obl:=by
        intro o ho x hx;obtain⟨o',h1,_,h2⟩:=xXC i ho;rw[h2];exact u1 o' h1 x hx
       refine⟨fun o ho x hx=>?_,fun J=>?_,fun w0 J g w a hm he hob Q hQ=>?_⟩
       ·rcases yLB h o ho with⟨h1,_⟩|⟨o',ho',_,q,hq,y,hy,rfl⟩
        ·exact hUobl o h1 x hx
        ·exact(ih dp).obl r o'.st q hq y hy x (hUobl o' ho' x hx)
       ·obtain⟨o0,ho0,hpc0⟩:=u2 J;obtain⟨o,ho,hpc,_,_⟩:=xOA i ho0;rw[<- hpc] at hpc0;obtain⟨h1,h2⟩:=xHA h o ho;by_cases hn:o.ex = .norm
        ·obtain⟨q,hq,hall⟩:=h2 hn;obtain⟨x,hx,hxp⟩:=(ih dp).total J r o.st q hq;exact⟨_,hall x hx,PcOk.append.2 ⟨hpc0,hxp⟩⟩
        ·exact⟨o,h1 hn,hpc0⟩
       ·obtain⟨b1,b2⟩:=zZB (ih dp) h hob hQ;show (Code.block i (.loop b')).wp C.P (Exit.then (wpC C.P Q r) Q) a w;refine wp_block (wp_loop_rounds 4 (u3 w0 J g w a hm he (fun o ho hpc=>?_) _ (fun o ho hpc g' w' a' k1 k2 k3=>?_)))
        ·obtain⟨o',h1,h2,h3,_⟩:=xOA i ho;rw[<- h3];exact b1 o' h1 (by rw[h2];exact hpc)
        ·obtain⟨o',h1,h2,h3,h4⟩:=xOA i ho;have hb:=b2 o' h1 (by rw[h2];exact hpc) g' w' a' (by rw[h3];exact k1) (by rw[h3];exact k2) (by rw[h3];exact k3);rcases h4 with⟨h5,h6⟩|⟨h5,h6⟩
         ·rw[h6] at hb;rw[h5];simpa[Ex.toExit,Exit.inBlock] using hb
         ·rw[h6] at hb;cases hx:o.ex with
          | norm=>rw[hx] at hb;exact hb
          | ret=>rw[hx] at hb;exact hb
          | goto l=>rw[hx] at hb;exact hb
          | exit j =>
           rw[hx] at hb h5;have hij:¬(j=i):=fun e=>h5 (by rw[e])
           simpa[Ex.toExit,Exit.inBlock,hij] using hb
      split at h
      ·rename_i st1 hl;obtain⟨h1,h2⟩:=hwhile (exec C n dp) (ih dp) i b' st st1 hl;refine⟨fun o ho x hx=>(ih dp).obl r st1 outs h o ho x (h1 x hx),fun J=>(ih dp).total J r st1 outs h,fun w0 J g w a hm he hob Q hQ=>?_⟩;have hob1:zCA X Pre st1.obl J:=by
        obtain⟨o,ho,hpc⟩:=(ih dp).total J r st1 outs h;exact zJA.2 fun x hx=>zJA.1 (hob o ho hpc) x ((ih dp).obl r st1 outs h o ho x hx)
       exact h2 w0 J g w a hm he hob1 (Exit.then (wpC C.P Q r) Q) (fun g' w' a' k1 k2 k3 =>
        (ih dp).sound w0 J r st1 outs g' w' a' k2 k3 h hob Q (fun o ho hpc g2 w2 a2 m1 m2 m3=>hQ o ho hpc g2 w2 a2 (k1.trans m1) m2 m3))
      ·split at h
       rotate_left
       ·cases h
       rename_i o1 ho1;split at h
       rotate_left
       ·cases h
       rename_i hexit;have hUobl:∀o∈xGB i o1,∀x∈st.obl,x∈o.st.obl:=by
        intro o ho x hx;obtain⟨o',h1,_,h2⟩:=xXC i ho;rw[h2];exact(ih dp).obl [b'] st o1 ho1 o' h1 x hx
       refine⟨fun o ho x hx=>?_,fun J=>?_,fun w0 J g w a hm he hob Q hQ=>?_⟩
       ·rcases yLB h o ho with⟨h1,_⟩|⟨o',ho',_,q,hq,y,hy,rfl⟩
        ·exact hUobl o h1 x hx
        ·exact(ih dp).obl r o'.st q hq y hy x (hUobl o' ho' x hx)
       ·obtain⟨o0,ho0,hpc0⟩:=(ih dp).total J [b'] st o1 ho1;obtain⟨o,ho,hpc,_,_⟩:=xOA i ho0;rw[<- hpc] at hpc0;obtain⟨h1,h2⟩:=xHA h o ho;by_cases hn:o.ex = .norm
        ·obtain⟨q,hq,hall⟩:=h2 hn;obtain⟨x,hx,hxp⟩:=(ih dp).total J r o.st q hq;exact⟨_,hall x hx,PcOk.append.2 ⟨hpc0,hxp⟩⟩
        ·exact⟨o,h1 hn,hpc0⟩
       ·obtain⟨b1,b2⟩:=zZB (ih dp) h hob hQ;show (Code.block i (.loop b')).wp C.P (Exit.then (wpC C.P Q r) Q) a w;refine wp_block (wp_loop (I:=fun a1 w1=>a1=a/\w1=w) (μ:=fun _ _=>0) ⟨rfl,rfl⟩ (fun a1 w1 hI=>?_));obtain⟨rfl,rfl⟩:=hI;refine zWA ((ih dp).sound w0 J [b'] st o1 g w1 a1 hm he ho1 (fun o ho hpc=>?_) _ (fun o ho hpc g' w' a' k1 k2 k3=>?_))
        ·obtain⟨o',h1,h2,h3,_⟩:=xOA i ho;rw[<- h3];exact b1 o' h1 (by rw[h2];exact hpc)
        ·obtain⟨o',h1,h2,h3,h4⟩:=xOA i ho;have hb:=b2 o' h1 (by rw[h2];exact hpc) g' w' a' (by rw[h3];exact k1) (by rw[h3];exact k2) (by rw[h3];exact k3);have hex:o.ex = .exit i:=by simpa using List.all_eq_true.1 hexit o ho
         rcases h4 with⟨h5,h6⟩|⟨h5,h6⟩
         ·rw[h6] at hb;rw[h5];simpa[Ex.toExit,Exit.inBlock,Exit.then] using hb
         ·exact absurd hex h5
     ·split at h
      ·rename_i o1 ho1;have hUobl:∀o∈xGB i o1,∀x∈st.obl,x∈o.st.obl:=by
        intro o ho x hx;obtain⟨o',h1,_,h2⟩:=xXC i ho;rw[h2];exact(ih dp).obl [b] st o1 ho1 o' h1 x hx
       refine⟨fun o ho x hx=>?_,fun J=>?_,fun w0 J g w a hm he hob Q hQ=>?_⟩
       ·rcases yLB h o ho with⟨h1,_⟩|⟨o',ho',_,q,hq,y,hy,rfl⟩
        ·exact hUobl o h1 x hx
        ·exact(ih dp).obl r o'.st q hq y hy x (hUobl o' ho' x hx)
       ·obtain⟨o0,ho0,hpc0⟩:=(ih dp).total J [b] st o1 ho1;obtain⟨o,ho,hpc,_,_⟩:=xOA i ho0;rw[<- hpc] at hpc0;obtain⟨h1,h2⟩:=xHA h o ho;by_cases hn:o.ex = .norm
        ·obtain⟨q,hq,hall⟩:=h2 hn;obtain⟨x,hx,hxp⟩:=(ih dp).total J r o.st q hq;exact⟨_,hall x hx,PcOk.append.2 ⟨hpc0,hxp⟩⟩
        ·exact⟨o,h1 hn,hpc0⟩
       ·obtain⟨b1,b2⟩:=zZB (ih dp) h hob hQ;show (Code.block i b).wp C.P (Exit.then (wpC C.P Q r) Q) a w;refine wp_block (zWA ((ih dp).sound w0 J [b] st o1 g w a hm he ho1 (fun o ho hpc=>?_) _ (fun o ho hpc g' w' a' k1 k2 k3=>?_)))
        ·obtain⟨o',h1,h2,h3,_⟩:=xOA i ho;rw[<- h3];exact b1 o' h1 (by rw[h2];exact hpc)
        ·obtain⟨o',h1,h2,h3,h4⟩:=xOA i ho;have hb:=b2 o' h1 (by rw[h2];exact hpc) g' w' a' (by rw[h3];exact k1) (by rw[h3];exact k2) (by rw[h3];exact k3);rcases h4 with⟨h5,h6⟩|⟨h5,h6⟩
         ·rw[h6] at hb;rw[h5];simpa[Ex.toExit,Exit.inBlock] using hb
         ·rw[h6] at hb;cases hx:o.ex with
          | norm=>rw[hx] at hb;exact hb
          | ret=>rw[hx] at hb;exact hb
          | goto l=>rw[hx] at hb;exact hb
          | exit j =>
           rw[hx] at hb h5;have hij:¬(j=i):=fun e=>h5 (by rw[e])
           simpa[Ex.toExit,Exit.inBlock,hij] using hb
      ·cases h
    | label l =>
     simp only[exec] at h;refine⟨(ih dp).obl r st outs h,fun J=>(ih dp).total J r st outs h,fun w0 J g w a hm he hob Q hQ=>?_⟩;exact wp_label ((ih dp).sound w0 J r st outs g w a hm he h hob Q hQ)
    | goto l =>
     simp only[exec,Option.some.injEq] at h;subst h;refine⟨by simp,fun J=>⟨_,List.mem_singleton.2 rfl,PcOk.nil⟩,fun w0 J g w a hm he hob Q hQ=>?_⟩;exact wp_goto (hQ ⟨[],.goto l,st⟩ (by simp) PcOk.nil g w a (Ext.refl st g) hm he)
    | scope b =>
     simp only[exec] at h;split at h
     rotate_left
     ·cases h
     rename_i o1 ho1;split at h
     rotate_left
     ·cases h
     rename_i o2 ho2;obtain⟨j1,j2,j3⟩:=xWF (ih dp) ho2;refine⟨fun o ho x hx=>?_,fun J=>?_,fun w0 J g w a hm he hob Q hQ=>?_⟩
     ·have hb:∀o∈o2,∀x∈st.obl,x∈o.st.obl:=fun o ho x hx=>by
       obtain⟨o',h1,h2⟩:=j1 o ho;exact h2 x ((ih dp).obl [b] st o1 ho1 o' h1 x hx)
      rcases yLB h o ho with⟨h1,_⟩|⟨o',ho',_,q,hq,y,hy,rfl⟩
      ·exact hb o h1 x hx
      ·exact(ih dp).obl r o'.st q hq y hy x (hb o' ho' x hx)
     ·obtain⟨o0,ho0,hpc0⟩:=(ih dp).total J [b] st o1 ho1;obtain⟨o,ho,hpc,_⟩:=j2 J o0 ho0 hpc0;obtain⟨h1,h2⟩:=xHA h o ho;by_cases hn:o.ex = .norm
      ·obtain⟨q,hq,hall⟩:=h2 hn;obtain⟨x,hx,hxp⟩:=(ih dp).total J r o.st q hq;exact⟨_,hall x hx,PcOk.append.2 ⟨hpc,hxp⟩⟩
      ·exact⟨o,h1 hn,hpc⟩
     ·obtain⟨b1,b2⟩:=zZB (ih dp) h hob hQ;show (Code.scope b).wp C.P (Exit.then (wpC C.P Q r) Q) a w;have hob1:∀o∈o1,PcOk X J o.pc->zCA X Pre o.st.obl J:=fun o ho hpc=>by
       obtain⟨q,hq,hqp,hqo⟩:=j2 J o ho hpc;exact zJA.2 fun x hx=>zJA.1 (b1 q hq hqp) x (hqo x hx)
      refine qPI (yYG (zWA (Q:=xYH C.P b _) ((ih dp).sound w0 J [b] st o1 g w a hm he ho1 hob1 _ (fun o ho hpc g' w' a' k1 k2 k3=>?_))));exact j3 w0 J st g _ b1 (fun q hq hqp g2 w2 a2 m1 m2 m3=>b2 q hq hqp g2 w2 a2 m1 m2 m3) o ho hpc g' w' a' k1 k2 k3
    | _=>simp[exec] at h
  exact⟨fun w0 J l st outs g w a hm he h hob Q hQ=>(key l st outs h).2.2 w0 J g w a hm he hob Q hQ,fun l st outs h=>(key l st outs h).1,fun J l st outs h=>(key l st outs h).2.1 J⟩
end
end Go.Dx
namespace Go.Dx
open Go
section
variable {P:Program} {X:Nat->List D->D} {Pre:Nat->List D->Prop} {w0:Base} {J δ':List D} {st:St} {g g':Gh} {w:World} {a:Act}
mutual
theorem xFA{n:Nat}(h:J.take n=δ'.take n):∀ {e:DE},e.shut n=true->e.eval X J=e.eval X δ'
 | .v i,hs=>by
  simp only[DE.shut,dtZ] at hs;have e1:(J.take n)[i]? = J[i]?:=by rw[List.getElem?_take];simp[hs]
  have e2:(δ'.take n)[i]? = δ'[i]?:=by rw[List.getElem?_take];simp[hs]
  simp only[DE.eval,List.getD_eq_getElem?_getD];rw[<- e1,<- e2,h]
 | .k d,_=>rfl
 | .f m as,hs=>by
  have:qCH n as=true:=by simpa[DE.shut] using hs
  simp only[DE.eval];rw[yND h this]
 | .fold lv s is bs j,hs=>by
  simp only[DE.shut,baZ,dtZ] at hs;simp only[DE.eval];have e:J.take lv=δ'.take lv:=by
   have e1:(J.take n).take lv=J.take lv:=by rw[List.take_take,Nat.min_eq_left hs.1.1]
   have e2:(δ'.take n).take lv=δ'.take lv:=by rw[List.take_take,Nat.min_eq_left hs.1.1]
   rw[<- e1,<- e2,h]
  rw[e,xFA h hs.1.2,yND h hs.2]
 | .wh lv gg is bs,hs=>by
  simp only[DE.shut,baZ,dtZ] at hs;simp only[DE.eval];have e:J.take lv=δ'.take lv:=by
   have e1:(J.take n).take lv=J.take lv:=by rw[List.take_take,Nat.min_eq_left hs.1]
   have e2:(δ'.take n).take lv=δ'.take lv:=by rw[List.take_take,Nat.min_eq_left hs.1]
   rw[<- e1,<- e2,h]
  rw[e,yND h hs.2]
theorem yND{n:Nat}(h:J.take n=δ'.take n):∀ {l:List DE},qCH n l=true->zDA X l J=zDA X l δ'
 | [],_=>rfl
 | x::l,hs=>by
  simp only[qCH,baZ] at hs;simp only[zDA];rw[xFA h hs.1,yND h hs.2]
end
structure GhEq (ms:List Nat) (g g':Gh):Prop where
 rv:∀m,m∉ms->g'.rv m=g.rv m/\g'.rh m=g.rh m
 rb:∀o,g'.rb o=g.rb o
theorem qBB{m:Nat}{ms:List Nat}(h:(!ms.elem m)=true):m∉ms:=by
 intro hm
 have:ms.elem m=true:=List.elem_eq_true_of_mem hm
 rw[this] at h;cases h
mutual
theorem zGB{n:Nat}{ms:List Nat}(h:J.take n=δ'.take n)(hg:GhEq ms g g'):∀ {s:SV},s.closed n ms=true->s.den X δ' g'=s.den X J g
 | .i k e,hs=>by simp only[SV.den];rw[xFA h (by simpa[SV.closed] using hs)]
 | .b e,hs=>by simp only[SV.den];rw[xFA h (by simpa[SV.closed] using hs)]
 | .s e,hs=>by simp only[SV.den];rw[xFA h (by simpa[SV.closed] using hs)]
 | .fl e,hs=>by simp only[SV.den];rw[xFA h (by simpa[SV.closed] using hs)]
 | .c _,_=>rfl
 | .x m,hs=>by simp only[SV.den];exact(hg.rv m (qBB (by simpa only[SV.closed] using hs))).1
 | .xc m j,hs=>by simp only[SV.den];rw[(hg.rv m (qBB (by simpa only[SV.closed] using hs))).1]
 | .ra m j,hs=>by simp only[SV.den];rw[(hg.rv m (qBB (by simpa only[SV.closed] using hs))).2]
 | .oa o j,_=>by simp only[SV.den];rw[hg.rb o]
 | .osl o j,_=>by simp only[SV.den];rw[hg.rb o]
 | .ea m e k z,hs=>by
  simp only[SV.closed,baZ] at hs;simp only[SV.den];rw[(hg.rv m (qBB hs.2)).1,xFA h hs.1]
 | .agg l,hs=>by simp only[SV.den];rw[qNB h hg (by simpa only[SV.closed] using hs)]
 | .tup l,hs=>by simp only[SV.den];rw[qNB h hg (by simpa only[SV.closed] using hs)]
 | .w k l,hs=>by simp only[SV.den];rw[qNB h hg (by simpa only[SV.closed] using hs)]
theorem qNB{n:Nat}{ms:List Nat}(h:J.take n=δ'.take n)(hg:GhEq ms g g'):∀ {l:List SV},zVC n ms l=true->dens X δ' g' l=dens X J g l
 | [],_=>rfl
 | x::l,hs=>by
  simp only[zVC,baZ] at hs;simp only[dens];rw[zGB h hg hs.1,qNB h hg hs.2]
end
mutual
theorem yHC{n:Nat}{ms:List Nat}(h:J.take n=δ'.take n):∀ {s:SV},s.closed n ms=true->s.ok X J->s.ok X δ'
 | .i k e,hs,ho=>by
  simp only[SV.ok,SV.okk] at ho ⊢;rw[<- xFA h (by simpa[SV.closed] using hs)];exact ho
 | .b e,hs,ho=>by
  simp only[SV.ok,SV.okk] at ho ⊢;rw[<- xFA h (by simpa[SV.closed] using hs)];exact ho
 | .s e,hs,ho=>by
  simp only[SV.ok,SV.okk] at ho ⊢;rw[<- xFA h (by simpa[SV.closed] using hs)];exact ho
 | .fl e,hs,ho=>by
  simp only[SV.ok,SV.okk] at ho ⊢;rw[<- xFA h (by simpa[SV.closed] using hs)];exact ho
 | .c _,_,_=>trivial
 | .x m,_,_=>trivial
 | .xc m j,_,_=>trivial
 | .ra m j,_,_=>trivial
 | .oa o j,_,_=>trivial
 | .osl o j,_,_=>trivial
 | .ea ..,_,_=>trivial
 | .agg l,hs,ho=>by
  simp only[SV.ok] at ho ⊢;exact yIC h (by simpa only[SV.closed] using hs) ho
 | .tup l,hs,ho=>by
  simp only[SV.ok] at ho ⊢;exact yIC h (by simpa only[SV.closed] using hs) ho
 | .w k l,hs,ho=>by
  simp only[SV.ok] at ho ⊢;exact yIC h (by simpa only[SV.closed] using hs) ho
theorem yIC{n:Nat}{ms:List Nat}(h:J.take n=δ'.take n):∀ {l:List SV},zVC n ms l=true->oks X J l->oks X δ' l
 | [],_,_=>trivial
 | x::l,hs,ho=>by
  simp only[zVC,baZ] at hs;exact⟨yHC h hs.1 ho.1,yIC h hs.2 ho.2⟩
end
theorem Mem.re(h:Mem P X w0 J st g w)(t:St)(hlv:δ'.length=t.lvl)(hgx:g.ex=g'.ex)(hrb:∀o,g'.rb o=g.rb o)
  (hv:∀n vi,lk n t.vars=some vi->vi.vt = .dead∨(∃n' vj,lk n' st.vars=some vj/\vj.vt=vi.vt/\g'.rv n=g.rv n'/\(g'.rh n=g.rh n'∨xRB vi.vt=true)/\vi.de.eval X δ'=vj.de.eval X J) ∨
   ((∀ok,zEB P ok w vi.vt (g'.rv n) (g'.rh n) (vi.de.eval X δ'))/\zGA vi.vt (g'.rv n)=none))
  (hinj:∀n m vi vj b,lk n t.vars=some vi->lk m t.vars=some vj->zGA vi.vt (g'.rv n)=some b->zGA vj.vt (g'.rv m)=some b->n=m)
  (ho:∀o cs,lk o t.objs=some cs -> ∃cs',lk o st.objs=some cs'/\dens X J g cs'=dens X δ' g' cs/\oks X δ' cs)
  (hl:∀l∈t.loops,LpOk P X δ' g' l):Mem P X w0 δ' t g' w:=by
 have hact:∀b,Actv t g' b->Actv st g b:=by
  rintro b (⟨o,cs,h1,h2⟩|⟨n,vi,h1,h2⟩)
  ·obtain⟨cs',h3,_⟩:=ho o cs h1;exact .inl ⟨o,cs',h3,by rw[<- hrb];exact h2⟩
  ·rcases hv n vi h1 with hd|⟨n',vj,h3,h4,h5,_⟩|⟨_,h3⟩
   ·rw[hd] at h2;simp[zGA] at h2
   ·exact .inr ⟨n',vj,h3,by rw[h4,<- h5];exact h2⟩
   ·rw[h3] at h2;cases h2
 have hok:∀b,okOf st g w b->okOf t g' w b:=fun b hb=>⟨hb.1,fun e=>hb.2.1 (hact b e),hgx▸hb.2.2⟩
 refine⟨?_,?_,?_,hinj,?_,fun b hb=>h.lo b (hact b hb),hl,h.fr,hlv,hgx▸h.ex,h.gl⟩
 ·intro n vi hn;rcases hv n vi hn with hd|⟨n',vj,h3,h4,h5,h6,h7⟩|⟨h3,_⟩
  ·rw[hd];trivial
  ·have hv:=(h.va n' vj h3).mono hok (fun _ _=>rfl) (fun _ _=>rfl);rw[h4] at hv;rw[h5,h7];rcases h6 with h6|h6
   ·rw[h6];exact hv
   ·revert hv h6
    generalize vi.vt=q;cases q <;> intro hv h6 <;> first|exact hv|(simp[xRB] at h6)
  ·exact h3 _
 ·intro o cs hc;obtain⟨cs',h1,h2,h3⟩:=ho o cs hc;obtain⟨h4,h5,h6⟩:=h.ob o cs' h1;rw[h2] at h4 h5;exact⟨by rw[hrb];exact h4,h5,h3⟩
 ·intro o o' c c' h1 h2 h3;obtain⟨c1,h4,_⟩:=ho o c h1;obtain⟨c2,h5,_⟩:=ho o' c' h2;rw[hrb,hrb] at h3;exact h.oo o o' c1 c2 h4 h5 h3
 ·intro o n c vi h1 h2;obtain⟨c1,h3,_⟩:=ho o c h1;rw[hrb];rcases hv n vi h2 with hd|⟨n',vj,h5,h6,h7,_⟩|⟨_,h5⟩
  ·rw[hd];simp[zGA]
  ·rw[<- h6,h7];exact h.ov o n' c1 vj h3 h5
  ·rw[h5];simp
theorem Pl.beq_eq{p q:Pl}(h:p.beq q=true):p=q:=by
 cases p <;> cases q <;> simp_all [Pl.beq]
theorem xEE{p:Pl}:∀ {cars:List (Pl×Cr)} {i j:Nat} {cr:Cr},yRD p cars i=some (j,cr)->i<=j/\cars[j-i]? = some (p,cr)
 | [],_,_,_,h=>by simp[yRD] at h
 | (q,c)::r,i,j,cr,h=>by
  simp only[yRD] at h;split at h
  ·rename_i hb;cases h
   have:=Pl.beq_eq hb
   subst this
   simp
  ·obtain⟨h1,h2⟩:=xEE h;refine⟨by omega,?_⟩;rw[show j-i=(j-(i+1))+1 by omega];simpa using h2
theorem qTD:∀ {cars:List (Pl×Cr)} {ds:List (DE×Option Nat)},qKJ P st cars=some ds->cars.length=ds.length /\ ∀(j:Nat) (p:Pl) (cr:Cr),cars[j]? = some (p,cr) -> ∃b d,qIE st p=some b/\ds[j]? = some d/\carD P st cr b=some d
 | [],ds,h=>by simp only[qKJ,Option.some.injEq] at h;subst h;exact⟨rfl,by simp⟩
 | (p,cr)::r,ds,h=>by
  simp only[qKJ] at h;split at h
  ·rename_i b hb;split at h
   ·rename_i d ds' h1 h2;cases h;obtain⟨k1,k2⟩:=qTD h2;refine⟨by simp[k1],fun j q c hj=>?_⟩;cases j with
    | zero=>simp at hj;obtain⟨rfl,rfl⟩:=hj;exact⟨b,d,hb,rfl,h1⟩
    | succ j=>simp only[List.getElem?_cons_succ] at hj ⊢;exact k2 j q c hj
   ·cases h
  ·cases h
def qEE:List (Pl×Cr)->Nat->Nat->Option Nat
 | [],_,_=>none
 | (_,.var m _)::r,i,n=>if m=n then some i else qEE r (i+1) n
 | _::r,i,n=>qEE r (i+1) n
theorem zFB:∀ {cars:List (Pl×Cr)} {i n:Nat},n∉msOf cars->qEE cars i n=none
 | [],_,_,_=>rfl
 | (p,.var m vt)::r,i,n,h=>by
  simp only[msOf,List.mem_cons,not_or] at h;simp only[qEE,Ne.symm h.1,if_false];exact zFB h.2
 | (p,.int k)::r,i,n,h=>by simp only[qEE];exact zFB (by simpa[msOf] using h)
 | (p,.bool)::r,i,n,h=>by simp only[qEE];exact zFB (by simpa[msOf] using h)
theorem qLC:∀ {cars:List (Pl×Cr)} (i:Nat) {n j:Nat} {p:Pl} {vt:VT},qTB (msOf cars)=true->cars[j]? = some (p,.var n vt)->qEE cars i n=some (i+j)
 | [],_,_,_,_,_,_,h=>by simp at h
 | (q,.var m vt')::r,i,n,j,p,vt,hd,h=>by
  simp only[msOf,qTB,baZ] at hd;cases j with
  | zero =>
   simp at h;simp[qEE,h.2.1]
  | succ j =>
   simp at h;have hne:m≠n:=fun e=>by
    subst e
    have:m∈msOf r:=by
     clear hd
     induction r generalizing j with
     | nil=>simp at h
     | cons x r ih =>
      obtain⟨xp,xc⟩:=x;cases j with
      | zero=>simp at h;obtain⟨rfl,rfl⟩:=h;simp[msOf]
      | succ j=>simp at h;have:=ih j h;cases xc <;> simp[msOf,this]
    exact qBB hd.1 this
   simp only[qEE,hne,if_false];rw[qLC (i+1) hd.2 h]
   congr 1;omega
 | (q,.int k)::r,i,n,j,p,vt,hd,h=>by
  cases j with
  | zero=>simp at h
  | succ j =>
   simp at h;simp only[qEE];rw[qLC (i+1) (by simpa[msOf] using hd) h]
   congr 1;omega
 | (q,.bool)::r,i,n,j,p,vt,hd,h=>by
  cases j with
  | zero=>simp at h
  | succ j =>
   simp at h;simp only[qEE];rw[qLC (i+1) (by simpa[msOf] using hd) h]
   congr 1;omega
theorem qYE:∀ {cars:List (Pl×Cr)} {n:Nat},n∈msOf cars -> ∃(j:Nat) (p:Pl) (vt:VT),cars[j]? = some (p,Cr.var n vt)
 | [],_,h=>by simp[msOf] at h
 | (q,.var m vt)::r,n,h=>by
  simp only[msOf,List.mem_cons] at h;rcases h with rfl|h
  ·exact⟨0,q,vt,rfl⟩
  ·obtain⟨j,p,v,hj⟩:=qYE h;exact⟨j+1,p,v,by simpa using hj⟩
 | (q,.int k)::r,n,h=>by
  obtain⟨j,p,v,hj⟩:=qYE (cars:=r) (by simpa[msOf] using h);exact⟨j+1,p,v,by simpa using hj⟩
 | (q,.bool)::r,n,h=>by
  obtain⟨j,p,v,hj⟩:=qYE (cars:=r) (by simpa[msOf] using h);exact⟨j+1,p,v,by simpa using hj⟩
theorem zDC:∀ {cars:List (Pl×Cr)} {ds:List (DE×Option Nat)} {j:Nat} {p:Pl} {m n:Nat} {vt:VT} {d:DE},cars[j]? = some (p,.var m vt)->ds[j]? = some (d,some n)->qKC vt=true->n∈xWA cars ds
 | [],_,_,_,_,_,_,_,h,_,_=>by simp at h
 | _::_,[],_,_,_,_,_,_,_,h,_=>by simp at h
 | (q,c)::cs,(e,o)::ds,0,p,m,n,vt,d,h1,h2,h3=>by
  simp at h1 h2;obtain⟨rfl,rfl⟩:=h1;obtain⟨rfl,rfl⟩:=h2;simp[xWA,h3]
 | (q,c)::cs,(e,o)::ds,j+1,p,m,n,vt,d,h1,h2,h3=>by
  simp at h1 h2
  have:=zDC h1 h2 h3
  cases c with
  | var m' vt' =>
   cases o with
   | some n' =>
    simp only[xWA];split
    ·exact List.mem_cons_of_mem _ this
    ·exact this
   | none=>simpa[xWA] using this
  | int k=>simpa[xWA] using this
  | bool=>simpa[xWA] using this
theorem qKF:∀ {cars:List (Pl×Cr)} {ds:List (DE×Option Nat)} {i j:Nat} {p q:Pl} {m k n:Nat} {vt vt':VT} {d e:DE},qTB (xWA cars ds)=true ->
  cars[i]? = some (p,.var m vt)->ds[i]? = some (d,some n)->qKC vt=true->cars[j]? = some (q,.var k vt')->ds[j]? = some (e,some n)->qKC vt'=true->i=j
 | [],_,_,_,_,_,_,_,_,_,_,_,_,_,h,_,_,_,_,_=>by simp at h
 | _::_,[],_,_,_,_,_,_,_,_,_,_,_,_,_,h,_,_,_,_=>by simp at h
 | (x,c)::cs,(y,o)::ds,i,j,p,q,m,k,n,vt,vt',d,e,hn,h1,h2,h3,h4,h5,h6=>by
  cases i with
  | zero =>
   cases j with
   | zero=>rfl
   | succ j =>
    exfalso;simp at h1 h2 h4 h5;obtain⟨rfl,rfl⟩:=h1;obtain⟨rfl,rfl⟩:=h2;simp only[xWA,h3,if_true,qTB,baZ] at hn;exact qBB hn.1 (zDC h4 h5 h6)
  | succ i =>
   cases j with
   | zero =>
    exfalso;simp at h1 h2 h4 h5;obtain⟨rfl,rfl⟩:=h4;obtain⟨rfl,rfl⟩:=h5;simp only[xWA,h6,if_true,qTB,baZ] at hn;exact qBB hn.1 (zDC h1 h2 h3)
   | succ j =>
    simp at h1 h2 h4 h5;have hn':qTB (xWA cs ds)=true:=by
     cases c with
     | var m' v' =>
      cases o with
      | some n' =>
       simp only[xWA] at hn;split at hn
       ·simp only[qTB,baZ] at hn;exact hn.2
       ·exact hn
      | none=>simpa[xWA] using hn
     | int k'=>simpa[xWA] using hn
     | bool=>simpa[xWA] using hn
    rw[qKF hn' h1 h2 h3 h4 h5 h6]
end
end Go.Dx
namespace Go.Dx
open Go
section
variable {P:Program} {X:Nat->List D->D} {Pre:Nat->List D->Prop} {w0:Base} {J δ':List D} {st:St} {g g':Gh} {w:World} {a:Act}
theorem zXD{lv:Nat}{ms taken:List Nat}:∀ {l:List (Nat×VI)} {n:Nat} {vi:VI},zHH lv ms taken st l=true->(n,vi)∈l->n∈ms∨vi.vt = .dead ∨ ∃vj,lk n st.vars=some vj/\vj.vt=vi.vt/\vj.de=vi.de/\vi.de.shut lv=true/\n∉taken
 | [],_,_,_,h=>by cases h
 | (k,x)::r,n,vi,h,hm=>by
  simp only[zHH,baZ] at h;rcases List.mem_cons.1 hm with e|hm
  ·cases e;have h1:=h.1;simp only[Bool.or_eq_true,dtZ] at h1;rcases h1 with(h1|h1)|h1
   ·exact .inl (List.mem_of_elem_eq_true h1)
   ·exact .inr (.inl h1)
   ·split at h1
    ·rename_i vj hj;simp only[baZ,dtZ] at h1;exact .inr (.inr ⟨vj,hj,h1.1.1.1,DE.beq_eq h1.1.1.2,h1.1.2,qBB h1.2⟩)
    ·cases h1
  ·exact zXD h.2 hm
theorem xCC{lv:Nat}{ms:List Nat}{cars:List (Pl×Cr)}:∀ {l:List (Nat×SV)} {s:Nat} {v:SV},zHJ lv ms cars st l=true->(s,v)∈l ->
  (∃j cr,yRD (.slot s) cars 0=some (j,cr)/\v=cr.sv (lv+2+j))∨(yRD (.slot s) cars 0=none/\lk s st.env=some v/\v.closed lv ms=true)
 | [],_,_,_,h=>by cases h
 | (k,x)::r,s,v,h,hm=>by
  simp only[zHJ,baZ] at h;rcases List.mem_cons.1 hm with e|hm
  ·cases e;have h1:=h.1;split at h1
   ·rename_i j cr hj;exact .inl ⟨j,cr,hj,SV.beq_eq h1⟩
   ·rename_i hj;split at h1
    ·rename_i u hu;simp only[baZ] at h1
     have:=SV.beq_eq h1.1
     subst this;exact .inr ⟨hj,hu,h1.2⟩
    ·cases h1
  ·exact xCC h.2 hm
theorem xAC{lv:Nat}{ms:List Nat}{cars:List (Pl×Cr)}{o:Nat}:∀ {l u:List SV} {i:Nat},yZC lv ms cars o i l u=true->l.length=u.length /\ ∀(j:Nat) (v x:SV),l[j]? = some v->u[j]? = some x ->
  (∃q cr,yRD (.cell o (i+j)) cars 0=some (q,cr)/\v=cr.sv (lv+2+q))∨(yRD (.cell o (i+j)) cars 0=none/\x=v/\v.closed lv ms=true)
 | [],[],_,_=>⟨rfl,by simp⟩
 | [],_::_,_,h=>by simp[yZC] at h
 | _::_,[],_,h=>by simp[yZC] at h
 | v::vs,x::us,i,h=>by
  simp only[yZC,baZ] at h;obtain⟨h2,h3⟩:=xAC h.2;refine⟨by simp[h2],fun j y z hy hz=>?_⟩;cases j with
  | zero =>
   simp only[List.getElem?_cons_zero,Option.some.injEq] at hy hz;subst hy;subst hz
   have h1:=h.1;split at h1
   ·rename_i q cr hq;exact .inl ⟨q,cr,hq,SV.beq_eq h1⟩
   ·rename_i hq;simp only[baZ] at h1;exact .inr ⟨hq,SV.beq_eq h1.1,h1.2⟩
  | succ j =>
   simp only[List.getElem?_cons_succ] at hy hz
   have:=h3 j y z hy hz
   rw[show i+(j+1)=i+1+j by omega];exact this
theorem zHD{lv:Nat}{ms:List Nat}{cars:List (Pl×Cr)}:∀ {l:List (Nat×List SV)} {o:Nat} {cs:List SV},qIG lv ms cars st l=true->(o,cs)∈l -> ∃us,lk o st.objs=some us/\yZC lv ms cars o 0 cs us=true
 | [],_,_,_,h=>by cases h
 | (k,x)::r,o,cs,h,hm=>by
  simp only[qIG,baZ] at h;rcases List.mem_cons.1 hm with e|hm
  ·cases e;have h1:=h.1;split at h1
   ·rename_i us hu;exact⟨us,hu,h1⟩
   ·cases h1
  ·exact zHD h.2 hm
theorem xMC{lv:Nat}{ms:List Nat}:∀ {ls:List Lp} {l:Lp},qVE lv ms st ls=true->l∈ls->l∈st.loops/\l.lvl<lv/\l.src.closed lv ms=true/\l.row∉ms
 | [],_,_,h=>by cases h
 | k::r,l,h,hm=>by
  simp only[qVE,baZ,dtZ] at h;rcases List.mem_cons.1 hm with rfl|hm
  ·refine⟨?_,h.1.1.1.2,h.1.1.2,qBB h.1.2⟩
   have:=h.1.1.1.1
   simp only[List.any_eq_true] at this;obtain⟨l',h1,h2⟩:=this;simp only[lpBeq,baZ,beq_iff_eq] at h2;obtain⟨r1,s1,e1,v1⟩:=l;obtain⟨r2,s2,e2,v2⟩:=l';simp only at h2;rw[<- h2.1.1.1,<- SV.beq_eq h2.1.1.2,<- h2.1.2,<- h2.2];exact h1
  ·exact xMC h.2 hm
theorem yXC{lv:Nat}{h:St}:∀ {cars:List (Pl×Cr)} {i:Nat},yGC lv h cars i=true -> ∀(j:Nat) (p:Pl) (m:Nat) (vt:VT),cars[j]? = some (p,.var m vt)->lk m h.vars=some ⟨vt,.v (lv+2+(i+j))⟩
 | [],_,_,_,_,_,_,hj=>by simp at hj
 | (q,c)::r,i,hc,j,p,m,vt,hj=>by
  cases j with
  | zero =>
   simp only[List.getElem?_cons_zero,Option.some.injEq,Prod.mk.injEq] at hj;obtain⟨rfl,rfl⟩:=hj;simp only[yGC,baZ] at hc;have h1:=hc.1;split at h1
   ·rename_i vi hv;simp only[baZ,dtZ] at h1;obtain⟨vt',de⟩:=vi;simp only at h1;rw[hv,h1.1,DE.beq_eq h1.2];rfl
   ·cases h1
  | succ j =>
   simp only[List.getElem?_cons_succ] at hj;have hc':yGC lv h r (i+1)=true:=by
    cases c with
    | var m' vt'=>simp only[yGC,baZ] at hc;exact hc.2
    | int k=>simpa[yGC] using hc
    | bool=>simpa[yGC] using hc
   have:=yXC hc' j p m vt hj
   rw[show i+(j+1)=i+1+j by omega];exact this
noncomputable def xPD(X:Nat->List D->D)(J:List D)(g:Gh)(st:St)(cars:List (Pl×Cr))(j:Nat):Value :=
 match cars[j]? with
 | some (p,_)=>match qIE st p with
  | some b=>b.den X J g
  | none=>undef
 | none=>undef
noncomputable def Gh.carry(X:Nat->List D->D)(J:List D)(g:Gh)(st:St)(cars:List (Pl×Cr)):Gh :=
 { rv:=fun n=>match qEE cars 0 n with|some j=>xPD X J g st cars j|none=>g.rv n,rb:=g.rb,rh:=g.rh,ex:=g.ex }
theorem zPK{s:Nat}{b:SV}(h:qIE st (.slot s)=some b):lk s st.env=some b:=h
theorem yPG{o j:Nat}{b:SV}(h:qIE st (.cell o j)=some b):∃cs,lk o st.objs=some cs/\cs[j]? = some b:=by
 simp only[qIE,Option.bind_eq_bind,Option.bind_eq_some_iff] at h;exact h
theorem qIJ{vt:VT}{v:Value}{b:Nat}(h:zGA vt v=some b):qKC vt=true:=by
 cases vt with
 | own t=>rfl
 | tags t=>rfl
 | set t=>simp[zGA] at h
 | row t=>simp[zGA] at h
 | dead=>simp[zGA] at h
 | gi=>simp[zGA] at h
theorem yGG{vt:VT}{cv:CV}(hl:xRB vt=true)(hn:zFD P vt (.c cv)=true)(hcv:cv = .nils∨cv = .nilm∨cv = .nilp)(hm:Nat×Nat):(∀ok,zEB P ok w vt cv.den hm .nil)/\zGA vt cv.den=none:=by
 rcases hcv with rfl|rfl|rfl
 ·cases vt with
  | set t =>
   obtain⟨e,i,hu,hi⟩:=zLB (t:=t) hn;exact⟨fun ok=>.snil hu,rfl⟩
  | own t =>
   obtain⟨e,i,hu,hi⟩:=zLB (t:=t) hn;exact⟨fun ok=>ySA.nilv hu hi,rfl⟩
  | tags t=>simp[zFD] at hn
  | row t=>simp[xRB] at hl
  | dead=>simp[xRB] at hl
  | gi=>simp[xRB] at hl
 ·cases vt with
  | set t =>
   obtain⟨k,e,hu⟩:=qEB (m:=t) hn;exact⟨fun ok=>.mnil hu,rfl⟩
  | tags t =>
   obtain⟨k,e,hu⟩:=qEB (m:=t) hn;exact⟨fun ok=>.nil hu,rfl⟩
  | own t=>simp[zFD] at hn
  | row t=>simp[xRB] at hl
  | dead=>simp[xRB] at hl
  | gi=>simp[xRB] at hl
 ·cases vt with
  | set t =>
   simp only[zFD] at hn;split at hn
   ·rename_i e hu;exact⟨fun ok=>.pnil hu,rfl⟩
   ·cases hn
  | own t=>simp[zFD] at hn
  | tags t=>simp[zFD] at hn
  | row t=>simp[xRB] at hl
  | dead=>simp[xRB] at hl
  | gi=>simp[xRB] at hl
theorem qXI(h:Mem P X w0 J st g w){m:Nat}{vt:VT}{b:SV}{d:DE}{o:Option Nat}(hc:carD P st (.var m vt) b=some (d,o)) :
  (∃n vi,b = .x n/\o=some n/\lk n st.vars=some vi/\vi.vt=vt/\vi.de=d)∨((∀ok (hm:Nat×Nat),zEB P ok w vt (b.den X J g) hm (d.eval X J))/\zGA vt (b.den X J g)=none):=by
 cases b with
 | x n =>
  simp only[carD] at hc;split at hc
  ·rename_i vi hv;split at hc
   ·rename_i hh;cases hc;exact .inl ⟨n,vi,rfl,rfl,hv,hh.1,rfl⟩
   ·cases hc
  ·cases hc
 | c cv =>
  right;cases cv with
  | nils =>
   simp only[carD] at hc;split at hc
   ·rename_i hh;cases hc;simp only[baZ] at hh;exact⟨fun ok hm=>(yGG hh.1 hh.2 (.inl rfl) hm).1 ok,(yGG (P:=P) (w:=w) hh.1 hh.2 (.inl rfl) (0,0)).2⟩
   ·cases hc
  | nilm =>
   simp only[carD] at hc;split at hc
   ·rename_i hh;cases hc;simp only[baZ] at hh;exact⟨fun ok hm=>(yGG hh.1 hh.2 (.inr (.inl rfl)) hm).1 ok,(yGG (P:=P) (w:=w) hh.1 hh.2 (.inr (.inl rfl)) (0,0)).2⟩
   ·cases hc
  | nilp =>
   simp only[carD] at hc;split at hc
   ·rename_i hh;cases hc;simp only[baZ] at hh;exact⟨fun ok hm=>(yGG hh.1 hh.2 (.inr (.inr rfl)) hm).1 ok,(yGG (P:=P) (w:=w) hh.1 hh.2 (.inr (.inr rfl)) (0,0)).2⟩
   ·cases hc
  | _=>simp[carD] at hc
 | _=>simp[carD] at hc
theorem xNK{m:Nat}{vt:VT}{b:SV}{d:DE×Option Nat}(hc:carD P st (.var m vt) b=some d):xRB vt=true:=by
 cases b with
 | x n =>
  simp only[carD] at hc;split at hc
  ·split at hc
   ·rename_i hh;exact hh.2
   ·cases hc
  ·cases hc
 | c cv =>
  cases cv <;> simp only[carD,reduceCtorEq] at hc
  all_goals
   split at hc
   ·rename_i hh;simp only[baZ] at hh;exact hh.1
   ·cases hc
 | _=>simp[carD] at hc
theorem yQE{l:List DE}{j:Nat}{e:DE}(h:l[j]? = some e):(zDA X l J)[j]? = some (e.eval X J):=by rw[qWA,List.getElem?_map,h];rfl
theorem zHE{lv:Nat}(hlv:lv<=J.length)(x y:D)(acc:List D)(j:Nat):(J.take lv++(x::y::acc)).getD (lv+2+j) .nil=acc.getD j .nil:=by
 have hl:(J.take lv).length=lv:=by rw[List.length_take];omega
 rw[List.getD_eq_getElem?_getD,List.getD_eq_getElem?_getD,List.getElem?_append_right (by omega),hl];rw[show lv+2+j-lv=j+1+1 by omega]
 simp
theorem xOK(ext:List D){cars:List (Pl×Cr)}{ds:List (DE×Option Nat)}{lv:Nat}(hlv:lv<=J.length)(x y:D)(hnd:qTB (msOf cars)=true)(hcd:qKJ P st cars=some ds)(hok:∀p b,qIE st p=some b->b.ok X J){j:Nat}{p:Pl}{cr:Cr}(hj:cars[j]? = some (p,cr)) :
  ∃b,qIE st p=some b/\(cr.sv (lv+2+j)).den X (J.take lv++(x::y::(zDA X (ds.map (·.1)) J++ext))) (g.carry X J st cars)=b.den X J g/\(cr.sv (lv+2+j)).ok X (J.take lv++(x::y::(zDA X (ds.map (·.1)) J++ext))):=by
 obtain⟨_,hget⟩:=qTD hcd;obtain⟨b,d,hb,hd,hc⟩:=hget j p cr hj;have hdj:(zDA X (ds.map (·.1)) J++ext).getD j .nil=d.1.eval X J:=by
  have h1:=yQE (X:=X) (J:=J) (l:=ds.map (·.1)) (j:=j) (e:=d.1) (by rw[List.getElem?_map,hd];rfl);rw[List.getD_eq_getElem?_getD,List.getElem?_append_left (List.getElem?_eq_some_iff.1 h1).1,h1];rfl
 have hev:(DE.v (lv+2+j)).eval X (J.take lv++(x::y::(zDA X (ds.map (·.1)) J++ext)))=d.1.eval X J:=by
  simp only[DE.eval];rw[zHE hlv x y _ j,hdj]
 refine⟨b,hb,?_⟩;have hbok:=hok p b hb;cases cr with
 | int k =>
  cases b with
  | i k' e =>
   simp only[carD] at hc;split at hc
   ·rename_i hk;subst hk;cases hc
    simp only[Cr.sv,SV.den,hev,SV.ok,SV.okk];exact⟨trivial,hbok⟩
   ·cases hc
  | _=>simp[carD] at hc
 | bool =>
  cases b with
  | b e =>
   simp only[carD,Option.some.injEq] at hc;cases hc;simp only[Cr.sv,SV.den,hev,SV.ok,SV.okk];exact⟨trivial,hbok⟩
  | _=>simp[carD] at hc
 | var m vt =>
  refine⟨?_,trivial⟩;simp only[Cr.sv,SV.den,Gh.carry];rw[qLC 0 hnd hj];simp[xPD,hj,hb]
theorem qJB{lv:Nat}{cars:List (Pl×Cr)}{h0:St}{ds:List DE}(h:Mem P X w0 J st g w)(hlv:lv<=J.length)(hf:fits P lv cars st h0=some ds)(hnd:qTB (msOf cars)=true)(hco:yGC lv h0 cars 0=true)(ext:List D)(hl0:h0.lvl=lv+2+cars.length+ext.length)
  (he:∀s sv,lk s st.env=some sv->a.tmps[s]? = some (sv.den X J g)/\sv.ok X J) (x y:D) :
  Mem P X w0 (J.take lv++(x::y::(zDA X ds J++ext))) h0 (g.carry X J st cars) w /\
  (∀s v,lk s h0.env=some v->a.tmps[s]? = some (v.den X (J.take lv++(x::y::(zDA X ds J++ext))) (g.carry X J st cars))/\v.ok X (J.take lv++(x::y::(zDA X ds J++ext)))) /\
  GhEq (msOf cars) g (g.carry X J st cars)/\ds.length=cars.length:=by
 unfold fits at hf;split at hf
 ·rename_i dsp hcd;split at hf
  ·rename_i hcond;cases hf;simp only[baZ,beq_iff_eq] at hcond;obtain⟨⟨⟨⟨⟨htk,hvf⟩,hef⟩,hof⟩,hlf⟩,hnt⟩:=hcond;obtain⟨hlen,hget⟩:=qTD hcd;have hplok:∀p b,qIE st p=some b->b.ok X J:=fun p b hb=>by
    cases p with
    | slot s=>exact(he s b hb).2
    | cell o j =>
     obtain⟨cs,h1,h2⟩:=yPG hb;exact yFA.1 (h.ob o cs h1).2.2 b (List.mem_of_getElem? h2)
   have hcar:=fun {j:Nat} {p:Pl} {cr:Cr} (hj:cars[j]? = some (p,cr))=>xOK (g:=g) ext hlv x y hnd hcd hplok hj
   have hgh:GhEq (msOf cars) g (g.carry X J st cars):=⟨fun m hm=>by simp[Gh.carry,zFB hm],fun o=>rfl⟩;have htake:J.take lv=(J.take lv++(x::y::(zDA X (dsp.map (·.1)) J++ext))).take lv:=by
    have hl:(J.take lv).length=lv:=by rw[List.length_take];omega
    rw[List.take_append_of_le_length (Nat.le_of_eq hl.symm),List.take_take,Nat.min_self]
   have hms:∀n,n∈msOf cars -> ∃j p vt,cars[j]? = some (p,Cr.var n vt)/\lk n h0.vars=some ⟨vt,.v (lv+2+j)⟩:=fun n hn=>by
    obtain⟨j,p,vt,hj⟩:=qYE hn
    have:=yXC hco j p n vt hj
    rw[Nat.zero_add] at this;exact⟨j,p,vt,hj,this⟩
   have hrvm:∀j p n vt,cars[j]? = some (p,Cr.var n vt)->(g.carry X J st cars).rv n=xPD X J g st cars j:=fun j p n vt hj=>by
    simp only[Gh.carry];rw[qLC 0 hnd hj];simp
   have hmemd:∀n vi,lk n h0.vars=some vi->n∉msOf cars->vi.vt = .dead ∨ ∃vj,lk n st.vars=some vj/\vj.vt=vi.vt/\vj.de=vi.de/\vi.de.shut lv=true/\n∉xWA cars dsp:=fun n vi hn hnm=>by
    rcases zXD hvf (qZA hn) with h1|h1|h1
    ·exact absurd h1 hnm
    ·exact .inl h1
    ·exact .inr h1
   have hsrc:∀n vi b,lk n h0.vars=some vi->zGA vi.vt ((g.carry X J st cars).rv n)=some b ->
     ∃n' vj,lk n' st.vars=some vj/\zGA vj.vt (g.rv n')=some b/\((n∉msOf cars/\n'=n/\n∉xWA cars dsp) ∨ ∃j p vt d,cars[j]? = some (p,Cr.var n vt)/\dsp[j]? = some (d,some n')/\qKC vt=true):=fun n vi b hn hb=>by
    by_cases hnm:n∈msOf cars
    ·obtain⟨j,p,vt,hj,hlk⟩:=hms n hnm;rw[hn] at hlk;cases hlk
     obtain⟨bb,d,hpl,hd,hcd'⟩:=hget j p _ hj;have hv:=hrvm j p n vt hj;have hcv:xPD X J g st cars j=bb.den X J g:=by simp[xPD,hj,hpl]
     rw[hv,hcv] at hb;rcases qXI h (d:=d.1) (o:=d.2) hcd' with⟨n',vj,rfl,ho,hlk',hvt,_⟩|⟨_,hnone⟩
     ·refine⟨n',vj,hlk',by rw[hvt];exact hb,.inr ⟨j,p,vt,d.1,hj,?_,qIJ hb⟩⟩;rw[hd,<- ho]
     ·simp only at hb;rw[hnone] at hb;cases hb
    ·rcases hmemd n vi hn hnm with hd|⟨vj,h1,h2,_,_,h3⟩
     ·rw[hd] at hb;simp[zGA] at hb
     ·rw[(hgh.rv n hnm).1] at hb;exact⟨n,vj,h1,by rw[h2];exact hb,.inl ⟨hnm,rfl,h3⟩⟩
   refine⟨h.re h0 (by rw[hl0];simp[yUA,hlen];omega) rfl (fun o=>rfl) (fun n vi hn=>?_) (fun n m vi vj b h1 h2 h3 h4=>?_) (fun o cs hc=>?_) (fun l hl=>?_),fun s v hs=>?_,hgh,by simp[hlen]⟩
   ·by_cases hnm:n∈msOf cars
    ·obtain⟨j,p,vt,hj,hlk⟩:=hms n hnm;rw[hn] at hlk;cases hlk
     obtain⟨bb,d,hpl,hd,hcd'⟩:=hget j p _ hj;have hv:=hrvm j p n vt hj;have hcv:xPD X J g st cars j=bb.den X J g:=by simp[xPD,hj,hpl]
     have hdj:(DE.v (lv+2+j)).eval X (J.take lv++(x::y::(zDA X (dsp.map (·.1)) J++ext)))=d.1.eval X J:=by
      simp only[DE.eval];have h1:=yQE (X:=X) (J:=J) (l:=dsp.map (·.1)) (j:=j) (e:=d.1) (by rw[List.getElem?_map,hd];rfl);rw[zHE hlv x y _ j,List.getD_eq_getElem?_getD,List.getElem?_append_left (List.getElem?_eq_some_iff.1 h1).1,h1];rfl
     right;have hlive:=xNK hcd';rcases qXI h (d:=d.1) (o:=d.2) hcd' with⟨n',vj,rfl,ho,hlk',hvt,hde⟩|⟨hvar,hnone⟩
     ·exact .inl ⟨n',vj,hlk',hvt,by rw[hv,hcv];rfl,.inr hlive,by rw[hdj,hde]⟩
     ·right;refine⟨fun ok=>?_,?_⟩
      ·simp only;rw[hv,hcv,hdj];exact hvar ok _
      ·simp only;rw[hv,hcv];exact hnone
    ·rcases hmemd n vi hn hnm with hd|⟨vj,h1,h2,h3,h4,h5⟩
     ·exact .inl hd
     ·exact .inr (.inl ⟨n,vj,h1,h2,(hgh.rv n hnm).1,.inl (hgh.rv n hnm).2,by rw[h3];exact(xFA htake h4).symm⟩)
   ·obtain⟨n',vn,e1,e2,e3⟩:=hsrc n vi b h1 h3;obtain⟨m',vm,f1,f2,f3⟩:=hsrc m vj b h2 h4;have hnm:=h.vv n' m' vn vm b e1 f1 e2 f2;subst hnm;rcases e3 with⟨_,rfl,e4⟩|⟨j,p,vt,d,e4,e5,e6⟩
    ·rcases f3 with⟨_,f4,_⟩|⟨j,p,vt,d,f4,f5,f6⟩
     ·exact f4
     ·exact absurd (zDC f4 f5 f6) e4
    ·rcases f3 with⟨_,rfl,f4⟩|⟨j',p',vt',d',f4,f5,f6⟩
     ·exact absurd (zDC e4 e5 e6) f4
     ·have:=qKF htk e4 e5 e6 f4 f5 f6
      subst this;rw[e4] at f4;cases f4;rfl
   ·obtain⟨us,hu,hcf⟩:=zHD hof (qZA hc);obtain⟨c1,c2⟩:=xAC hcf;have hob:=h.ob o us hu;have hcell:∀(j:Nat) (v u:SV),cs[j]? = some v->us[j]? = some u->v.den X (J.take lv++(x::y::(zDA X (dsp.map (·.1)) J++ext))) (g.carry X J st cars)=u.den X J g/\v.ok X (J.take lv++(x::y::(zDA X (dsp.map (·.1)) J++ext))):=fun j v u hv hu'=>by
     rcases c2 j v u hv hu' with⟨q,cr,hq,rfl⟩|⟨_,rfl,hcl⟩
     ·obtain⟨_,hq2⟩:=xEE hq;rw[Nat.sub_zero] at hq2;obtain⟨b,k1,k2,k3⟩:=hcar hq2;obtain⟨cs',k4,k5⟩:=yPG k1;rw[hu] at k4;cases k4
      rw[Nat.zero_add,hu'] at k5;cases k5
      exact⟨k2,k3⟩
     ·exact⟨zGB htake hgh hcl,yHC htake hcl (yFA.1 hob.2.2 _ (List.mem_of_getElem? hu'))⟩
    refine⟨us,hu,?_,?_⟩
    ·apply List.ext_getElem?;intro j;rw[zSA,zSA,List.getElem?_map,List.getElem?_map];cases hv:cs[j]? with
     | none =>
      have:us[j]? = none:=by rw[List.getElem?_eq_none_iff] at hv ⊢;omega
      rw[this];rfl
     | some v =>
      have hlt:=(List.getElem?_eq_some_iff.1 hv).1;have hu':us[j]? = some us[j]:=List.getElem?_eq_getElem (by omega);rw[hu'];simp only[Option.map_some];rw[(hcell j v _ hv hu').1]
    ·rw[yFA];intro v hv;obtain⟨j,hj⟩:=List.mem_iff_getElem?.1 hv;have hlt:=(List.getElem?_eq_some_iff.1 hj).1;exact(hcell j v _ hj (List.getElem?_eq_getElem (show j<us.length by omega))).2
   ·obtain⟨h1,h2,h3,h4⟩:=xMC hlf hl;obtain⟨b,off,len,cap,k,i,k1,k2,k3,k4,k5⟩:=h.lp l h1;refine⟨b,off,len,cap,k,i,by rw[zGB htake hgh h3];exact k1,?_,k3,k4,by rw[(hgh.rv _ h4).2];exact k5⟩
    have:(J.take lv)[l.lvl]? = J[l.lvl]?:=by rw[List.getElem?_take];simp[h2]
    rw[List.getElem?_append_left (by rw[List.length_take];omega),this,k2]
   ·rcases xCC hef (qZA hs) with⟨j,cr,hj,rfl⟩|⟨_,hst,hcl⟩
    ·obtain⟨_,hq2⟩:=xEE hj;rw[Nat.sub_zero] at hq2;obtain⟨b,k1,k2,k3⟩:=hcar hq2;rw[k2];exact⟨(he s b (zPK k1)).1,k3⟩
    ·obtain⟨k1,k2⟩:=he s v hst;rw[zGB htake hgh hcl];exact⟨k1,yHC htake hcl k2⟩
  ·cases hf
 ·cases hf
end
end Go.Dx
namespace Go.Dx
open Go
section
variable {P:Program} {X:Nat->List D->D} {Pre:Nat->List D->Prop} {w0:Base} {J δ':List D} {st:St} {g g':Gh} {w:World} {a:Act}
theorem zHB(f:Nat->D->List D->List D):∀(l:List D) (i:Nat) (r:D) (acc:List D),yIA f i (l++[r]) acc=f (i+l.length) r (yIA f i l acc)
 | [],i,r,acc=>by simp[yIA]
 | x::l,i,r,acc=>by
  simp only[List.cons_append,yIA];rw[zHB f l (i+1) r]
  congr 1
  simp;omega
theorem zXF{lv:Nat}{cars:List (Pl×Cr)}{h0:St}{ds:List DE}(hf:fits P lv cars st h0=some ds):st.nt=h0.nt:=by
 unfold fits at hf;split at hf
 ·split at hf
  ·rename_i hc;simp only[baZ,beq_iff_eq] at hc;exact hc.2
  ·cases hf
 ·cases hf
theorem xUG{Q:Exit->Act->World->Prop}:∀(c:Code) {r:List Code} {a:Act} {w:World},wpC P Q (yHI c++r) a w->c.wp P (Exit.then (wpC P Q r) Q) a w
 | .seq x y,r,a,w,h=>by
  simp only[yHI,List.append_assoc] at h;refine wp_seq ?_;rw[qRH];refine Go.Code.wp_mono (fun e a w hh=>?_) (xUG x h);cases e <;> first|exact xUG y hh|exact hh
 | .skip,_,_,_,h=>h
 | .region _ _ _,_,_,_,h=>h
 | .cond _ _ _,_,_,_,h=>h
 | .loop _,_,_,_,h=>h
 | .block _ _,_,_,_,h=>h
 | .exit _,_,_,_,h=>h
 | .goto _,_,_,_,h=>h
 | .label _,_,_,_,h=>h
 | .scope _,_,_,_,h=>h
 | .rangeFunc _ _ _ _,_,_,_,h=>h
 | .ret,_,_,_,h=>h
 | .refuse _,_,_,_,h=>h
end
end Go.Dx
namespace Go.Dx
open Go
section
variable {P:Program} {X:Nat->List D->D} {Pre:Nat->List D->Prop} {w0:Base} {J δ':List D} {st:St} {g g':Gh} {w:World} {a:Act}
theorem yQG{lv:Nat}{d:DE}{inits bodies:List DE}{cars:List (Pl×Cr)}:∀ {l:List (Nat×SV)} {s:Nat} {v:SV},lk s (xWB lv d inits bodies cars l)=some v ->
  ∃u,lk s l=some u/\((∃j cr,yRD (.slot s) cars 0=some (j,cr)/\v=cr.post lv d inits bodies j)∨(yRD (.slot s) cars 0=none/\v=u))
 | [],_,_,h=>by simp[xWB,xDA,yLA] at h
 | (k,x)::r,s,v,h=>by
  simp only[xWB] at h;by_cases hk:k=s
  ·subst hk;rw[zKA] at h;refine⟨x,zKA,?_⟩;simp only[Option.some.injEq] at h;split at h
   ·rename_i j cr hj;exact .inl ⟨j,cr,hj,h.symm⟩
   ·rename_i hj;exact .inr ⟨hj,h.symm⟩
  ·rw[zIA hk] at h;obtain⟨u,h1,h2⟩:=yQG h;exact⟨u,by rw[zIA hk];exact h1,h2⟩
theorem zTE{lv:Nat}{d:DE}{inits bodies:List DE}{cars:List (Pl×Cr)}{o:Nat}:∀ {l:List SV} {i:Nat},(zSB lv d inits bodies cars o i l).length=l.length /\ ∀(j:Nat) (v:SV),(zSB lv d inits bodies cars o i l)[j]? = some v ->
  ∃u,l[j]? = some u/\((∃q cr,yRD (.cell o (i+j)) cars 0=some (q,cr)/\v=cr.post lv d inits bodies q)∨(yRD (.cell o (i+j)) cars 0=none/\v=u))
 | [],_=>⟨rfl,by simp[zSB]⟩
 | x::r,i=>by
  obtain⟨h1,h2⟩:=zTE (lv:=lv) (d:=d) (inits:=inits) (bodies:=bodies) (cars:=cars) (o:=o) (l:=r) (i:=i+1);refine⟨by simp[zSB,h1],fun j v hj=>?_⟩;simp only[zSB] at hj;cases j with
  | zero =>
   simp only[List.getElem?_cons_zero,Option.some.injEq] at hj;refine⟨x,rfl,?_⟩;rw[Nat.add_zero];split at hj
   ·rename_i q cr hq;exact .inl ⟨q,cr,hq,hj.symm⟩
   ·rename_i hq;exact .inr ⟨hq,hj.symm⟩
  | succ j =>
   simp only[List.getElem?_cons_succ] at hj;obtain⟨u,k1,k2⟩:=h2 j v hj;refine⟨u,by simpa using k1,?_⟩;rw[show i+(j+1)=i+1+j by omega];exact k2
theorem qVB{lv:Nat}{d:DE}{inits bodies:List DE}{cars:List (Pl×Cr)}:∀ {l:List (Nat×List SV)} {o:Nat},lk o (yRB lv d inits bodies cars l)=(lk o l).map (zSB lv d inits bodies cars o 0)
 | [],_=>rfl
 | (k,x)::r,o=>by
  simp only[yRB];by_cases hk:k=o
  ·subst hk;rw[zKA,zKA];rfl
  ·rw[zIA hk,zIA hk];exact qVB
theorem qWB{lv:Nat}{d:DE}{inits bodies:List DE}{vs:List (Nat×VI)}:∀ {cars:List (Pl×Cr)} {i n:Nat} {vi:VI},lk n (xRA lv d inits bodies cars i vs)=some vi ->
  (n∉msOf cars/\lk n vs=some vi) ∨ ∃j p vt,cars[j]? = some (p,Cr.var n vt)/\vi=⟨vt,.fold lv d inits bodies (i+j)⟩
 | [],_,_,_,h=>.inl ⟨by simp[msOf],h⟩
 | (p,.var m vt)::r,i,n,vi,h=>by
  simp only[xRA] at h;by_cases hm:m=n
  ·subst hm;rw[zZA] at h;cases h;exact .inr ⟨0,p,vt,rfl,rfl⟩
  ·rw[yMA hm] at h;rcases qWB h with⟨h1,h2⟩|⟨j,q,v,h1,h2⟩
   ·exact .inl ⟨by simp[msOf,Ne.symm hm,h1],h2⟩
   ·exact .inr ⟨j+1,q,v,by simpa using h1,by rw[h2];congr 2;omega⟩
 | (p,.int k)::r,i,n,vi,h=>by
  simp only[xRA] at h;rcases qWB h with⟨h1,h2⟩|⟨j,q,v,h1,h2⟩
  ·exact .inl ⟨by simpa[msOf] using h1,h2⟩
  ·exact .inr ⟨j+1,q,v,by simpa using h1,by rw[h2];congr 2;omega⟩
 | (p,.bool)::r,i,n,vi,h=>by
  simp only[xRA] at h;rcases qWB h with⟨h1,h2⟩|⟨j,q,v,h1,h2⟩
  ·exact .inl ⟨by simpa[msOf] using h1,h2⟩
  ·exact .inr ⟨j+1,q,v,by simpa using h1,by rw[h2];congr 2;omega⟩
theorem zJB{lv:Nat}{d:DE}{inits bodies:List DE}{vs:List (Nat×VI)}{n:Nat}{vi:VI}(h:lk n vs=some vi):∀ {cars:List (Pl×Cr)} {i:Nat},∃vj,lk n (xRA lv d inits bodies cars i vs)=some vj
 | [],_=>⟨vi,h⟩
 | (p,.var m vt)::r,i=>by
  simp only[xRA];exact qHA n _ (zJB h (cars:=r) (i:=i+1)).choose_spec
 | (p,.int k)::r,i=>by simp only[xRA];exact zJB h
 | (p,.bool)::r,i=>by simp only[xRA];exact zJB h
theorem xFE{lv:Nat}{cars:List (Pl×Cr)}{B h0 T:St}{d:DE}{inits bodies initsB:List DE}{acc:List D}{x y:D}(h:Mem P X w0 (J++(x::y::acc)) h0 g w)(he:∀s v,lk s h0.env=some v->a.tmps[s]? = some (v.den X (J++(x::y::acc)) g)/\v.ok X (J++(x::y::acc)))
  (hlv:J.length=lv) (hf:fits P lv cars B h0=some initsB) (hnd:qTB (msOf cars)=true) (hco:yGC lv h0 cars 0=true)
  (hfold:∀j,(DE.fold lv d inits bodies j).eval X J=acc.getD j .nil)
  (hT:T = { env:=xWB lv d inits bodies cars h0.env,vars:=xRA lv d inits bodies cars 0 h0.vars,objs:=yRB lv d inits bodies cars h0.objs,loops:=h0.loops,obl:=T.obl,lvl:=lv,nx:=T.nx,nt:=h0.nt }) :
  Mem P X w0 J T g w/\(∀s v,lk s T.env=some v->a.tmps[s]? = some (v.den X J g)/\v.ok X J):=by
 have hTe:T.env=xWB lv d inits bodies cars h0.env:=by rw[hT]
 have hTv:T.vars=xRA lv d inits bodies cars 0 h0.vars:=by rw[hT]
 have hTo:T.objs=yRB lv d inits bodies cars h0.objs:=by rw[hT]
 have hTl:T.loops=h0.loops:=by rw[hT]
 have hTlv:T.lvl=lv:=by rw[hT]
 unfold fits at hf;split at hf
 ·rename_i dsp hcd;split at hf
  ·rename_i hcond;simp only[baZ,beq_iff_eq] at hcond;obtain⟨⟨⟨⟨⟨htk,hvf⟩,hef⟩,hof⟩,hlf⟩,hnt⟩:=hcond;have hgh:GhEq (msOf cars) g g:=⟨fun _ _=>⟨rfl,rfl⟩,fun _=>rfl⟩;have htake:(J++(x::y::acc)).take lv=J.take lv:=by rw[List.take_append_of_le_length (by omega)]
   have hdata:∀j,(DE.v (lv+2+j)).eval X (J++(x::y::acc))=acc.getD j .nil:=fun j=>by
    simp only[DE.eval]
    have:=zHE (J:=J) (lv:=lv) (by omega) x y acc j
    rwa [List.take_of_length_le (by omega)] at this
   have hsv:∀(j:Nat) (cr:Cr),(cr.post lv d inits bodies j).den X J g=(cr.sv (lv+2+j)).den X (J++(x::y::acc)) g/\((cr.sv (lv+2+j)).ok X (J++(x::y::acc))->(cr.post lv d inits bodies j).ok X J):=fun j cr=>by
    cases cr with
    | int k=>simp only[Cr.post,Cr.sv,SV.den,SV.ok,SV.okk,hfold,hdata];exact⟨trivial,fun h=>h⟩
    | bool=>simp only[Cr.post,Cr.sv,SV.den,SV.ok,SV.okk,hfold,hdata];exact⟨trivial,fun h=>h⟩
    | var m vt=>exact⟨rfl,fun _=>trivial⟩
   refine⟨h.re T (by rw[hTlv,hlv]) rfl (fun o=>rfl) (fun n vi hn=>?_) (fun n m vi vj b h1 h2 h3 h4=>?_) (fun o cs hc=>?_) (fun l hl=>?_),fun s v hs=>?_⟩
   ·rw[hTv] at hn;rcases qWB hn with⟨hnm,h1⟩|⟨j,p,vt,hj,rfl⟩
    ·rcases zXD hvf (qZA h1) with h2|h2|⟨vj,h2,h3,h4,h5,h6⟩
     ·exact absurd h2 hnm
     ·exact .inl h2
     ·exact .inr (.inl ⟨n,vi,h1,rfl,rfl,.inl rfl,xFA htake.symm h5⟩)
    ·have:=yXC hco j p n vt hj
     rw[Nat.zero_add] at this;exact .inr (.inl ⟨n,_,this,rfl,rfl,.inl rfl,by simp only[Nat.zero_add];rw[hfold,hdata]⟩)
   ·have key:∀n vi,lk n T.vars=some vi -> ∃vi',lk n h0.vars=some vi'/\vi'.vt=vi.vt:=fun n vi hn=>by
     rw[hTv] at hn;rcases qWB hn with⟨hnm,h1⟩|⟨j,p,vt,hj,rfl⟩
     ·exact⟨vi,h1,rfl⟩
     ·exact⟨_,yXC hco j p n vt hj,rfl⟩
    obtain⟨v1,k1,k2⟩:=key n vi h1;obtain⟨v2,k3,k4⟩:=key m vj h2;exact h.vv n m v1 v2 b k1 k3 (by rw[k2];exact h3) (by rw[k4];exact h4)
   ·rw[hTo,qVB] at hc;cases ho:lk o h0.objs with
    | none=>rw[ho] at hc;cases hc
    | some us =>
     rw[ho] at hc;simp only[Option.map_some,Option.some.injEq] at hc;subst hc;obtain⟨p1,p2⟩:=zTE (lv:=lv) (d:=d) (inits:=inits) (bodies:=bodies) (cars:=cars) (o:=o) (l:=us) (i:=0);obtain⟨xs,hxs,hcf⟩:=zHD hof (qZA ho);obtain⟨c1,c2⟩:=xAC hcf;have hob:=h.ob o us ho;have hcell:∀(j:Nat) (v:SV),(zSB lv d inits bodies cars o 0 us)[j]? = some v -> ∃u,us[j]? = some u/\v.den X J g=u.den X (J++(x::y::acc)) g/\v.ok X J:=fun j v hv=>by
      obtain⟨u,hu,hh⟩:=p2 j v hv;have huok:=yFA.1 hob.2.2 u (List.mem_of_getElem? hu);have hlt:=(List.getElem?_eq_some_iff.1 hu).1;have hx:xs[j]? = some xs[j]:=List.getElem?_eq_getElem (by omega);refine⟨u,hu,?_⟩;rcases hh with⟨q,cr,hq,rfl⟩|⟨hq,rfl⟩
      ·rcases c2 j u _ hu hx with⟨q',cr',hq',rfl⟩|⟨hq',_,_⟩
       ·rw[hq] at hq';cases hq'
        exact⟨(hsv q cr).1,(hsv q cr).2 huok⟩
       ·rw[hq] at hq';cases hq'
      ·rcases c2 j v _ hu hx with⟨q',cr',hq',_⟩|⟨_,_,hcl⟩
       ·rw[hq] at hq';cases hq'
       ·exact⟨zGB htake hgh hcl,yHC htake hcl huok⟩
     refine⟨us,rfl,?_,?_⟩
     ·apply List.ext_getElem?;intro j;rw[zSA,zSA,List.getElem?_map,List.getElem?_map];cases hv:(zSB lv d inits bodies cars o 0 us)[j]? with
      | none =>
       have:us[j]? = none:=by rw[List.getElem?_eq_none_iff] at hv ⊢;omega
       rw[this];rfl
      | some v =>
       obtain⟨u,hu,k1,k2⟩:=hcell j v hv;rw[hu];simp only[Option.map_some];rw[k1]
     ·rw[yFA];intro v hv;obtain⟨j,hj⟩:=List.mem_iff_getElem?.1 hv;obtain⟨u,hu,k1,k2⟩:=hcell j v hj;exact k2
   ·rw[hTl] at hl;obtain⟨h1,h2,h3,h4⟩:=xMC hlf hl;obtain⟨b,off,len,cap,k,i,k1,k2,k3,k4,k5⟩:=h.lp l hl;refine⟨b,off,len,cap,k,i,by rw[zGB htake hgh h3];exact k1,?_,k3,k4,k5⟩
    rwa [List.getElem?_append_left (by omega)] at k2
   ·rw[hTe] at hs;obtain⟨u,hu,hh⟩:=yQG hs;obtain⟨e1,e2⟩:=he s u hu;rcases hh with⟨q,cr,hq,rfl⟩|⟨hq,rfl⟩
    ·rcases xCC hef (qZA hu) with⟨j,cr',hj,rfl⟩|⟨hj,_,_⟩
     ·rw[hq] at hj;cases hj
      exact⟨by rw[(hsv q cr).1];exact e1,(hsv q cr).2 e2⟩
     ·rw[hq] at hj;cases hj
    ·rcases xCC hef (qZA hu) with⟨j,cr',hj,_⟩|⟨_,_,hcl⟩
     ·rw[hq] at hj;cases hj
     ·exact⟨by rw[zGB htake hgh hcl];exact e1,yHC htake hcl e2⟩
  ·cases hf
 ·cases hf
end
end Go.Dx
namespace Go.Dx
open Go
section
variable {P:Program} {X:Nat->List D->D} {Pre:Nat->List D->Prop} {w0:Base} {J δ':List D} {st:St} {g g':Gh} {w:World} {a:Act}
theorem yFG{i:Nat}{b:Code}{lp:LoopP}(h:xZC (.block i b)=some lp) :
  ∃body hid hops aid aops l m,b = .loop body/\yHI body=[.region hid hops false,.cond (.tmp lp.tc) .skip (.exit i),.block lp.inner lp.body,.region aid aops false] /\
   headP hops.toList=some (lp.tc,lp.ti,lp.tn,l)/\tailP aops.toList=some (lp.ti,lp.kd,m)/\lp.sl=l++m/\lp.tn∉m/\(lp.kd = .i64∨lp.kd = .i32):=by
 unfold xZC at h;split at h
 ·rename_i bid body heq;cases heq;split at h
  ·rename_i hid hops tc bid' inner bd aid aops hfl;split at h
   ·rename_i tc' ti tn l ti' kd m hh ha;split at h
    ·rename_i hc;cases h;obtain⟨rfl,rfl,rfl,_,n1,n2⟩:=hc;exact⟨body,hid,hops,aid,aops,l,m,rfl,hfl,hh,ha,rfl,by simpa using n1,n2⟩
    ·cases h
   ·cases h
  ·cases h
 ·cases h
theorem qNJ{lv r ti:Nat}{e:TypeId}{src:SV}{h0 h:St}(hE:yBH lv e src ti r h0=some h):h0.freshV r=true/\src.men r=false /\
  h = { h0 with vars:=(r,⟨.row e,.v (lv+1)⟩)::h0.vars,env:=upd ti (.i .i64 (.v lv)) h0.env,loops:=⟨r,src,e,lv⟩::h0.loops,nx:=r+1 }:=by
 unfold yBH at hE;split at hE
 ·rename_i s1 hn;split at hE
  ·cases hE
  ·rename_i hm;cases hE;unfold newV at hn;split at hn
   ·rename_i hf;cases hn;exact⟨hf,by simpa using hm,rfl⟩
   ·cases hn
 ·cases hE
theorem zVB{t:Nat}{v:Value}(h:a.tmps[t]? = some v):a.eval (.tmp t)=v:=by simp[Act.eval,Array.getD_eq_getD_getElem?,h]
theorem wp_one{ops:Array Oper}{Q:Exit->Act->World->Prop}{id:Nat}{o:Oper}(ho:ops.toList=[o])(hg:o.guard=none){v:Value}(hr:(execOp a.eval o).run P w = .ok (.value v) w)(h:Q .normal (a.put o.dst v) w):(Code.region id ops false).wp P Q a w:=by
 refine wp_region_list ?_;rw[ho];show yCB P ops Q _ o a w;unfold yCB
 have:Region.wanted o (yielded ops a.tmps)=true:=by simp[Region.wanted,hg]
 rw[this];simp only[if_true];exact .inl (xJB hr h)
theorem wp_two{ops:Array Oper}{Q:Exit->Act->World->Prop}{id:Nat}{o1 o2:Oper}(ho:ops.toList=[o1,o2])(hg1:o1.guard=none)(hg2:o2.guard=none){v1 v2:Value}(hr:(execOp a.eval o1).run P w = .ok (.value v1) w)
  (hr2:(execOp (a.put o1.dst v1).eval o2).run P w = .ok (.value v2) w) (h:Q .normal ((a.put o1.dst v1).put o2.dst v2) w):(Code.region id ops false).wp P Q a w:=by
 refine wp_region_list ?_;rw[ho];show yCB P ops Q _ o1 a w;unfold yCB;have e1:Region.wanted o1 (yielded ops a.tmps)=true:=by simp[Region.wanted,hg1]
 rw[e1];simp only[if_true];refine .inl (xJB hr ?_);show yCB P ops Q _ o2 _ w;unfold yCB;have e2:Region.wanted o2 (yielded ops (a.put o1.dst v1).tmps)=true:=by simp[Region.wanted,hg2]
 rw[e2];simp only[if_true];exact .inl (xJB hr2 h)
theorem yUL{t t':TypeId}{x y:Operand}{n m:Int}{k:IntKind}{o:Oper}(hop:o.op = .binOp .lss t x y t')(hx:a.eval x = .int k n)(hy:a.eval y = .int k m)(w:World):(execOp a.eval o).run P w = .ok (.value (.bool (decide (n<m)))) w:=by
 unfold execOp;simp only[hop,hx,hy,Sem.run_bind];rw[xCB rfl (by simp)];simp[binOp,Op.intCmp]
theorem kd_max{k:IntKind}(h:k = .i64∨k = .i32){n:Nat}(hn:(n:Int)<=k.max):(Lit.int k (n:Int)).wf=true/\k.wrap (n:Int)=(n:Int):=by
 rcases h with rfl|rfl
 ·have h2:(n:Int)<=9223372036854775807:=hn;refine⟨zOC ?_,?_⟩
  ·simp[IntKind.min,IntKind.max,IntKind.signed,IntKind.bits];omega
  ·rw[IntKind.wrap_i64];omega
 ·have h2:(n:Int)<=2147483647:=hn;refine⟨zOC ?_,?_⟩
  ·simp[IntKind.min,IntKind.max,IntKind.signed,IntKind.bits];omega
  ·rw[IntKind.wrap_i32];omega
theorem yWJ{t:TypeId}{t':TypeId}{x:Operand}{n:Nat}{k:IntKind}(hk:k = .i64∨k = .i32){o:Oper}(hop:o.op = .binOp .add t x (.const (.int k 1)) t')(hx:a.eval x = .int k (n:Nat))(hn:((n+1:Nat):Int)<=k.max)(w:World):(execOp a.eval o).run P w = .ok (.value (.int k ((n+1:Nat):Int))) w:=by
 unfold execOp;have e:a.eval (.const (.int k 1)) = .int k 1:=rfl;simp only[hop,hx,e,Sem.run_bind];rw[xCB rfl (by simp)];have hw:k.wrap ((n:Int)+1)=((n+1:Nat):Int):=(kd_max hk hn).2;simp[binOp,Op.intArith,hw]
theorem zAB{d s:Nat}{v:Value}(h:s≠d):(a.put (some d) v).tmps[s]? = a.tmps[s]?:=by
 rw[yDB];simp[h]
theorem qFB{d:Nat}{v:Value}(h:d<a.tmps.size):(a.put (some d) v).tmps[d]? = some v:=by
 rw[yDB];simp[h]
theorem xYA{d:Option Nat}{v:Value}:(a.put d v).tmps.size=a.tmps.size:=by cases d <;> simp[Act.put]
theorem zKB{d:Option Nat}{v:Value}:(a.put d v).defers=a.defers:=by cases d <;> rfl
theorem xWJ{ops:Array Oper}{Q:Exit->Act->World->Prop}{id:Nat}{o1 o2 o3:Oper}(ho:ops.toList=[o1,o2,o3])(hg1:o1.guard=none)(hg2:o2.guard=none)(hg3:o3.guard=none){v1 v2 v3:Value}(hr:(execOp a.eval o1).run P w = .ok (.value v1) w)
  (hr2:(execOp (a.put o1.dst v1).eval o2).run P w = .ok (.value v2) w) (hr3:(execOp ((a.put o1.dst v1).put o2.dst v2).eval o3).run P w = .ok (.value v3) w) (h:Q .normal (((a.put o1.dst v1).put o2.dst v2).put o3.dst v3) w):(Code.region id ops false).wp P Q a w:=by
 refine wp_region_list ?_;rw[ho];show yCB P ops Q _ o1 a w;unfold yCB;have e1:Region.wanted o1 (yielded ops a.tmps)=true:=by simp[Region.wanted,hg1]
 rw[e1];simp only[if_true];refine .inl (xJB hr ?_);show yCB P ops Q _ o2 _ w;unfold yCB;have e2:Region.wanted o2 (yielded ops (a.put o1.dst v1).tmps)=true:=by simp[Region.wanted,hg2]
 rw[e2];simp only[if_true];refine .inl (xJB hr2 ?_);show yCB P ops Q _ o3 _ w;unfold yCB;have e3:Region.wanted o3 (yielded ops ((a.put o1.dst v1).put o2.dst v2).tmps)=true:=by simp[Region.wanted,hg3]
 rw[e3];simp only[if_true];exact .inl (xJB hr3 h)
theorem zXE{x:Operand}{o:Oper}{v:Value}(hop:o.op = .move x∨o.op = .assign x)(hx:a.eval x=v)(w:World):(execOp a.eval o).run P w = .ok (.value v) w:=by
 unfold execOp;rcases hop with h|h
 ·simp only[h,hx];simp
 ·simp only[h,hx];simp
theorem head_wp{ops:List Oper}{tc ti tn:Nat}{l:List Nat}(hp:headP ops=some (tc,ti,tn,l)):tc∈l/\ti∉l/\tn∉l /\
  ∀ {id:Nat} {aops:Array Oper} {a:Act} {w:World} {kd:IntKind} {k nn:Int} {Q:Exit->Act->World->Prop},aops.toList=ops->a.tmps[ti]? = some (.int kd k)->a.tmps[tn]? = some (.int kd nn)->(∀s∈l,s<a.tmps.size) ->
   (∀b1:Act,b1.tmps[tc]? = some (.bool (decide (k<nn)))->(∀s,s∉l->b1.tmps[s]? = a.tmps[s]?)->b1.defers=a.defers->b1.tmps.size=a.tmps.size->Q .normal b1 w)->(Code.region id aops false).wp P Q a w:=by
 unfold headP at hp;split at hp
 ·rename_i h;split at hp
  ·rename_i tc' t3 ti' tn' t4 h1 h2;split at hp
   ·rename_i hc;cases hp;obtain⟨g1,n1,n2,n3⟩:=hc;refine⟨by simp,by simpa using(Ne.symm n2),by simpa using(Ne.symm n3),fun {id aops a w kd k nn Q} ho hi hn hs hQ=>?_⟩;refine wp_one (P:=P) ho (by simpa using g1) (yUL h2 (zVB hi) (zVB hn) w) ?_;rw[h1];exact hQ _ (qFB (hs tc (by simp))) (fun s hs'=>zAB (by simpa using hs')) zKB xYA
   ·cases hp
  ·cases hp
 ·rename_i m1 m2 h;split at hp
  ·rename_i x ti' y tn' tc' t3 x' y' t4 h1 h2 h3 h4 h5 h6;split at hp
   ·rename_i hc;cases hp;obtain⟨g1,g2,g3,rfl,rfl,n1,n2,n3,n4,n5,n6,n7,n8⟩:=hc;refine⟨by simp,by simp[Ne.symm n7,Ne.symm n3,Ne.symm n5],by simp[Ne.symm n8,Ne.symm n4,Ne.symm n6],fun {id aops a w kd k nn Q} ho hi hn hs hQ=>?_⟩;have s1:x'<a.tmps.size:=hs x' (by simp);have s2:y'<a.tmps.size:=hs y' (by simp);have s3:tc<a.tmps.size:=hs tc (by simp);have e2:(a.put (some x') (.int kd k)).tmps[tn]? = some (.int kd nn):=by rw[zAB (Ne.symm n4)];exact hn
    refine xWJ (P:=P) ho (by simpa using g1) (by simpa using g2) (by simpa using g3) (v1:=.int kd k) (v2:=.int kd nn) (v3:=.bool (decide (k<nn))) (zXE (.inl h2) (zVB hi) w) (by rw[h1];exact zXE (.inl h4) (zVB e2) w) ?_ ?_
    ·rw[h1,h3];have e1:((a.put (some x') (.int kd k)).put (some y') (.int kd nn)).tmps[x']? = some (.int kd k):=by rw[zAB n1];exact qFB s1
     have e3:((a.put (some x') (.int kd k)).put (some y') (.int kd nn)).tmps[y']? = some (.int kd nn):=qFB (by rw[xYA];exact s2);exact yUL h6 (zVB e1) (zVB e3) w
    ·rw[h1,h3,h5];refine hQ _ (qFB (by rw[xYA,xYA];exact s3)) (fun s hs'=>?_) (by rw[zKB,zKB,zKB]) (by rw[xYA,xYA,xYA]);simp only[List.mem_cons,List.not_mem_nil,or_false,not_or] at hs';rw[zAB hs'.1,zAB hs'.2.2,zAB hs'.2.1]
   ·cases hp
  ·cases hp
 ·cases hp
theorem tail_wp{ops:List Oper}{ti:Nat}{kd:IntKind}{l:List Nat}(hp:tailP ops=some (ti,kd,l))(hk:kd = .i64∨kd = .i32):ti∉l /\
  ∀ {id:Nat} {aops:Array Oper} {a:Act} {w:World} {k:Nat} {Q:Exit->Act->World->Prop},aops.toList=ops->a.tmps[ti]? = some (.int kd (k:Nat))->((k+1:Nat):Int)<=kd.max->(∀s∈l,s<a.tmps.size)->ti<a.tmps.size ->
   (∀b1:Act,b1.tmps[ti]? = some (.int kd ((k+1:Nat):Int))->(∀s,s≠ti->s∉l->b1.tmps[s]? = a.tmps[s]?)->b1.defers=a.defers->b1.tmps.size=a.tmps.size->Q .normal b1 w)->(Code.region id aops false).wp P Q a w:=by
 unfold tailP at hp;split at hp
 ·rename_i a1 a2;split at hp
  ·rename_i t2 t5 ti' kd' t6 ti2 t2' h1 h2 h3 h4;split at hp
   ·rename_i hc;cases hp;obtain⟨g1,g2,rfl,rfl,n1⟩:=hc;refine⟨by simpa using(Ne.symm n1),fun {id aops a w k Q} ho hi hm hs ht hQ=>?_⟩;have s1:t2'<a.tmps.size:=hs t2' (by simp);refine wp_two (P:=P) ho (by simpa using g1) (by simpa using g2) (v1:=.int kd ((k+1:Nat):Int)) (v2:=.int kd ((k+1:Nat):Int)) (yWJ hk h2 (zVB hi) hm w) (by rw[h1];exact zXE (.inl h4) (zVB (qFB s1)) w) ?_;rw[h1,h3];refine hQ _ (qFB (by rw[xYA];exact ht)) (fun s hs1 hs2=>?_) (by rw[zKB,zKB]) (by rw[xYA,xYA]);rw[zAB hs1,zAB (by simpa using hs2)]
   ·cases hp
  ·cases hp
 ·rename_i m a1 a2;split at hp
  ·rename_i x ti' y t5 x' kd' t6 ti2 y' h1 h2 h3 h4 h5 h6;split at hp
   ·rename_i hc;cases hp;obtain⟨g1,g2,g3,rfl,rfl,rfl,n1,n2⟩:=hc;refine⟨by simp[Ne.symm n1,Ne.symm n2],fun {id aops a w k Q} ho hi hm hs ht hQ=>?_⟩;have s1:x'<a.tmps.size:=hs x' (by simp);have s2:y'<a.tmps.size:=hs y' (by simp);refine xWJ (P:=P) ho (by simpa using g1) (by simpa using g2) (by simpa using g3) (v1:=.int kd (k:Nat)) (v2:=.int kd ((k+1:Nat):Int)) (v3:=.int kd ((k+1:Nat):Int)) (zXE (.inl h2) (zVB hi) w) (by rw[h1];exact yWJ hk h4 (zVB (qFB s1)) hm w)
     (by rw[h1,h3];exact zXE (.inr h6) (zVB (qFB (by rw[xYA];exact s2))) w) ?_
    rw[h1,h3,h5];refine hQ _ (qFB (by rw[xYA,xYA];exact ht)) (fun s hs1 hs2=>?_) (by rw[zKB,zKB,zKB]) (by rw[xYA,xYA,xYA]);simp only[List.mem_cons,List.not_mem_nil,or_false,not_or] at hs2;rw[zAB hs1,zAB hs2.2,zAB hs2.1]
   ·cases hp
  ·cases hp
 ·cases hp
theorem yMI{o:Option SV}{v:SV}(h:isSV o v=true):o=some v:=by
 cases o with
 | none=>simp[isSV] at h
 | some u=>rw[SV.beq_eq h]
theorem zKC(l m:List DE)(J:List D):zDA X (l++m) J=zDA X l J++zDA X m J:=by
 simp[qWA]
theorem xIC{B h0:St}{cars:List (Pl×Cr)}{tn:SV}{lp:LoopP}(h:xWE B h0 cars tn lp=true) :
  h0.obl=[]/\qTB (msOf cars)=true/\yGC B.lvl h0 cars 0=true/\lk lp.ti h0.env=none/\(∀s∈lp.sl,lk s h0.env=none/\s<h0.nt)/\lk lp.tn h0.env=some tn /\
  lp.ti<h0.nt/\zKE B.vars h0.vars (msOf cars)=true/\zKE B.objs h0.objs []=true:=by
 unfold xWE at h;simp only[baZ,dtZ,List.isEmpty_iff,List.all_eq_true] at h;obtain⟨⟨⟨⟨⟨⟨⟨⟨h1,h2⟩,h3⟩,h4⟩,h5⟩,h7⟩,h8⟩,h11⟩,h12⟩:=h;exact⟨h1,h2,h3,by simpa using h4,fun s hs=>⟨by simpa using(h5 s hs).1,(h5 s hs).2⟩,yMI h7,h8,h11,h12⟩
structure Kept (B:St) (g g':Gh):Prop where
 rv:∀n vi,lk n B.vars=some vi->g'.rv n=g.rv n/\g'.rh n=g.rh n
 rb:∀o cs,lk o B.objs=some cs->g'.rb o=g.rb o
structure Enters (P:Program) (X:Nat->List D->D) (w0:Base) (B h0 h:St) (ti:Nat) (Z:List D) (gk:Gh) (w:World) (gr:Gh):Prop where
 mem:Mem P X w0 Z h gr w
 den:∀s v,lk s h0.env=some v->v.den X Z gr=v.den X Z gk
 rv:∀n vi,lk n B.vars=some vi->(∃vj,lk n h.vars=some vj)/\gr.rv n=gk.rv n/\gr.rh n=gk.rh n
 rb:∀o cs,lk o B.objs=some cs->(∃c,lk o h.objs=some c)/\gr.rb o=gk.rb o
theorem loopH{ex:ExecF}(hex:ExOk P X Pre ex){i:Nat}{b:Code}{lp:LoopP}(hlp:xZC (.block i b)=some lp){B h0 h s2:St}{cars:List (Pl×Cr)}{d':DE}{outs:List Out}{tnS:SV}
  {inits bodies itail tail:List DE} (hho:xWE B h0 cars tnS lp=true) (hl0:h0.lvl=B.lvl+2+cars.length+tail.length) (hit:itail.length=tail.length)
  (houts:ex [.block lp.inner lp.body] h=some outs) (hhnt:h.nt=h0.nt) (hhenv:∀s v,lk s h.env=some v->(s=lp.ti/\v = .i lp.kd (.v B.lvl))∨(s≠lp.ti/\lk s h0.env=some v))
  (hfit0:fits P B.lvl cars B h0=some inits) (hti2:lk lp.ti s2.env=some (.i lp.kd (.v B.lvl))) (hfit2:fits P B.lvl cars s2 h0=some bodies)
  {rows:List D} (step:Nat->D->List D->List D) (hstep:step=fun i r acc=>zDA X (bodies++tail) (J++(.int i::r::acc)))
  (acc:Nat->List D) (hacc:acc=fun k=>yIA step 0 (rows.take k) (zDA X (inits++itail) J))
  (dk:Nat->D->List D) (hdk:dk=fun k y=>J++(.int k::y::acc k))
  (hnum:∀(Z:List D) (gk:Gh) (w':World),Z.take B.lvl=J->Mem P X w0 Z h0 gk w'->tnS.ok X Z -> ∃nn:Int,tnS.den X Z gk = .int lp.kd nn/\rows.length=nn.toNat/\(rows.length:Int)<=lp.kd.max)
  (henter:∀(k:Nat) (gk:Gh) (w':World),k<rows.length->Mem P X w0 (dk k (rows.getD k .nil)) h0 gk w' -> ∃gr,Enters P X w0 B h0 h lp.ti (dk k (rows.getD k .nil)) gk w' gr)
  (hN:∀(Z:List D) (o:Out),o∈outs->PcOk X Z o.pc->o.ex = .norm -> ∀(g0 g:Gh) (w:World) (a:Act),Mem P X w0 Z o.st g w->Env X Z o.st g a->Ext h g0 o.st g -> ∃g',Mem P X w0 Z s2 g' w/\Env X Z s2 g' a/\Ext h g0 s2 g')
  (Live:Nat->Prop) (hL0:Live 0) (hLs:∀k,k<rows.length->Live k -> ∀o∈outs,PcOk X (dk k (rows.getD k .nil)) o.pc->o.ex = .norm->Live (k+1))
  (hLob:∀k,k<rows.length->Live k -> ∀o∈outs,PcOk X (dk k (rows.getD k .nil)) o.pc->zCA X Pre o.st.obl (dk k (rows.getD k .nil)))
  (hm:Mem P X w0 J B g w) (he:∀s sv,lk s B.env=some sv->a.tmps[s]? = some (sv.den X J g)/\sv.ok X J) (hdf:a.defers=[]) (hsz:a.tmps.size=B.nt) (hti:a.tmps[lp.ti]? = some (.int lp.kd 0)) (Q:Exit->Act->World->Prop)
  (hend:∀(gk:Gh) (w':World) (a':Act),Live rows.length->Kept B g gk->Mem P X w0 (dk rows.length .nil) h0 gk w'->(∀s v,lk s h0.env=some v->a'.tmps[s]? = some (v.den X (dk rows.length .nil) gk)/\v.ok X (dk rows.length .nil))->a'.defers=[]->a'.tmps.size=h0.nt->Q .normal a' w')
  (hstop:∀(k:Nat),k<rows.length->Live k -> ∀o∈outs,PcOk X (dk k (rows.getD k .nil)) o.pc->o.ex ≠ .norm -> ∀(g0 g':Gh) (w':World) (a':Act),Kept B g g'->Ext h g0 o.st g'->Mem P X w0 (dk k (rows.getD k .nil)) o.st g' w'->Env X (dk k (rows.getD k .nil)) o.st g' a'->Q (zVL i o.ex).toExit a' w') :
  (Code.block i b).wp P Q a w:=by
 obtain⟨body,hid,hops,aid,aops,sh,st,rfl,hfl,hh,ha,hsl,ntn,nkd⟩:=yFG hlp;obtain⟨hd1,hd2,hd3,hdwp⟩:=head_wp (P:=P) hh;obtain⟨tl1,tlwp⟩:=tail_wp (P:=P) ha nkd;obtain⟨hobe,hnd,hco,hnti,hsls,htn',hlt1,hkv,hko⟩:=xIC hho;have hshe:∀s∈sh,lk s h0.env=none/\s<h0.nt:=fun s hs=>hsls s (by rw[hsl];exact List.mem_append_left _ hs)
 have hste:∀s∈st,lk s h0.env=none/\s<h0.nt:=fun s hs=>hsls s (by rw[hsl];exact List.mem_append_right _ hs)
 have hlv:=hm.lv;have hδt:J.take B.lvl=J:=List.take_of_length_le (by omega);have htk:∀k y,(dk k y).take B.lvl=J:=fun k y=>by
  rw[hdk];show (J++_).take _=_;rw[List.take_append_of_le_length (by omega),hδt]
 have hitl:∀Z,(zDA X itail Z).length=tail.length:=fun Z=>by rw[yUA,hit]
 have htl:∀Z,(zDA X tail Z).length=tail.length:=fun Z=>by rw[yUA]
 let Inv:Nat->Act->World->Prop:=fun k a w=>k<=rows.length/\Live k/\a.tmps[lp.ti]? = some (.int lp.kd (k:Nat))/\a.defers=[]/\a.tmps.size=h0.nt /\
  ∃gk:Gh,(∀y,Mem P X w0 (dk k y) h0 gk w /\ ∀s v,lk s h0.env=some v->a.tmps[s]? = some (v.den X (dk k y) gk)/\v.ok X (dk k y))/\Kept B g gk
 have hbase:Inv 0 a w:=by
  refine⟨Nat.zero_le _,hL0,hti,hdf,by rw[hsz];exact zXF hfit0,g.carry X J B cars,fun y=>?_,⟨fun n vi hn=>?_,fun o cs _=>rfl⟩⟩
  ·obtain⟨k1,k2,k3,_⟩:=qJB hm (by omega) hfit0 hnd hco (zDA X itail J) (by rw[hitl];exact hl0) he (.int (0:Nat)) y;rw[hδt,<- zKC] at k1 k2;rw[hdk,hacc];exact⟨k1,k2⟩
  ·have:=(yJA hkv hn).2
   simp[Gh.carry,zFB this]
 refine wp_block (wp_loop (I:=fun a w=>∃k,Inv k a w) (μ:=fun a _=>rows.length-(match a.tmps[lp.ti]? with|some (.int _ x)=>x.toNat|_=>0)) ⟨0,hbase⟩ (fun a w hI=>?_));obtain⟨k,hkn,hkL,hkti,hkdf,hksz,gk,hgk,hgkept⟩:=hI;obtain⟨nn,hnn,hrl,hlen⟩:=hnum _ gk w (htk k .nil) (hgk .nil).1 ((hgk .nil).2 lp.tn _ htn').2;have htnv:a.tmps[lp.tn]? = some (.int lp.kd nn):=by
  rw[((hgk .nil).2 lp.tn _ htn').1,hnn]
 have hmu:(match a.tmps[lp.ti]? with|some (.int _ x)=>x.toNat|_=>0)=k:=by rw[hkti];simp
 rw[hmu];generalize hQ':(Exit.then (fun a' w'=>(∃k,Inv k a' w')/\(rows.length-(match a'.tmps[lp.ti]? with|some (.int _ x)=>x.toNat|_=>0))<rows.length-k) (Exit.inBlock i Q))=Q';have hflat:wpC P Q' (yHI body++[]) a w->body.wp P Q' a w:=fun hh=>by
  have h2:=xUG body hh;have e2:Exit.then (wpC P Q' []) Q'=Q':=by funext e a w;cases e <;> rfl
  rw[e2] at h2;exact h2
 refine hflat ?_;rw[List.append_nil,hfl];refine hdwp rfl hkti htnv (fun s hs=>by rw[hksz];exact(hshe s hs).2) (fun b1 hb1c hb1o hb1df hb1sz=>?_);rw[hkdf] at hb1df;rw[hksz] at hb1sz;have hb1env:∀y s v,lk s h0.env=some v->b1.tmps[s]? = some (v.den X (dk k y) gk)/\v.ok X (dk k y):=fun y s v hs=>by
  have hne:s∉sh:=fun e=>by rw[(hshe s e).1] at hs;cases hs
  rw[hb1o s hne];exact(hgk y).2 s v hs
 show (Code.cond (.tmp lp.tc) .skip (.exit i)).wp P _ b1 w;refine wp_cond_split (zVB hb1c) (fun hlt=>?_) (fun hge=>?_)
 ·skip
  have hkl:k<rows.length:=by
   have:(k:Int)<nn:=by simpa using hlt
   omega
  refine wp_skip ?_;obtain⟨hmk,_⟩:=hgk (rows.getD k .nil);obtain⟨gr,hent⟩:=henter k gk w hkl hmk;have hobk:=hLob k hkl hkL;have hLk:=hLs k hkl hkL;have hstopk:=hstop k hkl hkL;generalize hδk:dk k (rows.getD k .nil)=δk at hent hobk hLk hstopk;have hδlv:δk[B.lvl]? = some (.int (k:Nat)):=by rw[<- hδk,hdk];show (J++_)[B.lvl]? = _;rw[List.getElem?_append_right (by omega)];simp[hlv]
  have hδlv0:(DE.v B.lvl).eval X δk = .int (k:Nat):=by simp[DE.eval,List.getD_eq_getElem?_getD,hδlv]
  have hEh:Env X δk h gr b1:=by
   refine⟨fun s sv hs=>?_,hb1df,by rw[hhnt];exact hb1sz⟩;rcases hhenv s sv hs with⟨rfl,rfl⟩|⟨hst,hs⟩
   ·rw[hb1o _ hd2,hkti];exact⟨by simp[SV.den,hδlv0,D.asInt],⟨_,hδlv0,(kd_max nkd (by omega)).1⟩⟩
   ·rw[hent.den s sv hs,<- hδk];exact hb1env (rows.getD k .nil) s sv hs
  have hkeptX:∀(s':St) (g2:Gh),Ext h gr s' g2->Kept B g g2:=fun s' g2 q1=>⟨fun n vi hn=>by
    obtain⟨⟨vj,hj⟩,e1,e2⟩:=hent.rv n vi hn;obtain⟨_,e3,e4⟩:=q1.rv n vj hj;obtain⟨k1,k2⟩:=hgkept.rv n vi hn;exact⟨by rw[e3,e1,k1],by rw[e4,e2,k2]⟩,fun o cs hc=>by
    obtain⟨⟨cj,hj⟩,e1⟩:=hent.rb o cs hc;obtain⟨_,e2⟩:=q1.rb o cj hj;rw[e2,e1];exact hgkept.rb o cs hc⟩
  show (Code.block lp.inner lp.body).wp P (Exit.then (wpC P Q' [.region aid aops false]) Q') b1 w;refine zWA (hex.sound w0 δk [.block lp.inner lp.body] h _ gr w b1 hent.mem hEh houts (fun o ho hpc=>hobk o ho hpc) _ (fun o ho hpc g1 w2 c2 q1' q2' q3'=>?_));by_cases hno:o.ex = .norm
  ·rw[hno];obtain⟨g2,q2,q3,q1⟩:=hN δk o ho hpc hno gr g1 w2 c2 q2' q3' q1';have hL1:=hLk o ho hpc hno;show (Code.region aid aops false).wp P (Exit.then (wpC P Q' []) Q') c2 w2;have hcti:c2.tmps[lp.ti]? = some (.int lp.kd ((k:Nat):Int)):=by
    have:=(q3.tm lp.ti _ hti2).1
    rw[this];simp[SV.den,hδlv0,D.asInt]
   have hcsz:c2.tmps.size=h0.nt:=by rw[q3.sz];exact zXF hfit2
   have hmaxk:((k+1:Nat):Int)<=lp.kd.max:=by omega
   refine tlwp rfl hcti hmaxk (fun s hs=>by rw[hcsz];exact(hste s hs).2) (by rw[hcsz];exact hlt1) (fun b3 hb3ti hb3o hb3df hb3sz=>?_);have hδkl:δk.take B.lvl=J:=by rw[<- hδk];exact htk _ _
   have hδkle:B.lvl<=δk.length:=by rw[<- hδk,hdk];show _<=(J++_).length;rw[List.length_append];omega
   have haccs:acc (k+1)=zDA X bodies δk++zDA X tail δk:=by
    rw[<- zKC,hacc];show yIA step 0 (rows.take (k+1)) _=_;have e1:rows.take (k+1)=rows.take k++[rows.getD k .nil]:=by
     rw[List.take_add_one]
     congr 1
     simp[List.getD,hkl]
    rw[e1,zHB];simp only[Nat.zero_add,List.length_take,Nat.min_eq_left (Nat.le_of_lt hkl)];rw[<- hδk,hdk,hacc,hstep]
   have hnext:Inv (k+1) b3 w2:=by
    refine⟨hkl,hL1,hb3ti,by rw[hb3df];exact q3.df,by rw[hb3sz];exact hcsz,g2.carry X δk s2 cars,fun y=>?_,⟨fun n vi hn=>?_,fun o cs hc=>?_⟩⟩
    ·obtain⟨k1,k2,k3,_⟩:=qJB q2 hδkle hfit2 hnd hco (zDA X tail δk) (by rw[htl];exact hl0) (a:=c2) q3.tm (.int ((k+1:Nat):Int)) y;rw[hδkl,<- haccs] at k1 k2;have e2:dk (k+1) y=J++(.int ((k+1:Nat):Int)::y::acc (k+1)):=by rw[hdk]
     rw[e2];refine⟨k1,fun s v hs=>?_⟩;have hs1:s≠lp.ti:=fun e=>by rw[e,hnti] at hs;cases hs
     have hs2:s∉st:=fun e=>by rw[(hste s e).1] at hs;cases hs
     rw[hb3o s hs1 hs2];exact k2 s v hs
    ·have hnm:=(yJA hkv hn).2;simp only[Gh.carry,zFB hnm];exact(hkeptX s2 g2 q1).rv n vi hn
    ·exact(hkeptX s2 g2 q1).rb o cs hc
   show Q' .normal b3 w2;rw[<- hQ'];refine⟨⟨k+1,hnext⟩,?_⟩;rw[hb3ti];simp only[Int.toNat_natCast];omega
  ·refine yDE hno ?_;have hq:=hstopk o ho hpc hno gr g1 w2 c2 (hkeptX o.st g1 q1') q1' q2' q3';rw[<- hQ'];refine yDE hno ?_;cases hx:o.ex with
   | norm=>exact absurd hx hno
   | ret=>rw[hx] at hq;exact hq
   | goto l=>rw[hx] at hq;exact hq
   | exit j =>
    rw[hx] at hq;simp only[Ex.toExit,Exit.inBlock];by_cases hji:j=i
    ·subst hji;simpa[zVL,Ex.toExit] using hq
    ·have:¬(Ex.exit j=Ex.exit i):=fun e=>by cases e;exact hji rfl
     simp only[zVL,this,if_false,Ex.toExit] at hq;simp only[hji,if_false];exact hq
 ·skip
  have hkl:k=rows.length:=by
   have:¬((k:Int)<nn):=by simpa using hge
   omega
  subst hkl;refine wp_exit ?_;show Q' (.exit i) b1 w;rw[<- hQ'];show Exit.inBlock i Q (.exit i) b1 w;simp only[Exit.inBlock,if_true];exact hend gk w b1 hkL hgkept (hgk .nil).1 (hb1env .nil) hb1df hb1sz
end
end Go.Dx
namespace Go.Dx
open Go
section
variable {P:Program} {X:Nat->List D->D} {Pre:Nat->List D->Prop} {w0:Base} {J δ':List D} {st:St} {g g':Gh} {w:World} {a:Act}
theorem xGA{X:Nat->List D->D}{J:List D}{α:Type}{e:DE}:∀ {l t f:List (List (DE×Bool)×α)},qKD e l=some (t,f) -> ∀p∈l,PcOk X J p.1 -> ∃b pc',(e.eval X J).asBool=b/\PcOk X J pc'/\(pc',p.2)∈(if b then t else f)
 | [],t,f,h,p,hp,_=>by cases hp
 | (pc,s)::r,t,f,h,p,hp,hpc=>by
  simp only[qKD] at h;split at h
  ·rename_i e' b pc' t' f' hs;split at h
   ·rename_i hbe;have he:=DE.beq_eq hbe;subst he;have ih:=fun hp'=>xGA hs p hp' hpc
    rcases List.mem_cons.1 hp with rfl|hp
    ·have h1:(e.eval X J).asBool=b:=hpc (e,b) (by simp);have h2:PcOk X J pc':=fun q hq=>hpc q (by simp[hq])
     refine⟨b,pc',h1,h2,?_⟩;cases b with
     | true=>simp only[if_true] at h ⊢;cases h;simp
     | false=>simp only[bfZ,if_false] at h ⊢;cases h;simp
    ·obtain⟨b',pc2,k1,k2,k3⟩:=ih hp;refine⟨b',pc2,k1,k2,?_⟩;cases b with
     | true =>
      simp only[if_true] at h;cases h
      cases b' with
      | true=>simp only[if_true] at k3 ⊢;exact List.mem_cons_of_mem _ k3
      | false=>exact k3
     | false =>
      simp only[bfZ,if_false] at h;cases h
      cases b' with
      | true=>exact k3
      | false=>simp only[bfZ,if_false] at k3 ⊢;exact List.mem_cons_of_mem _ k3
   ·cases h
  ·cases h
theorem zIB{st0:St}{g0:Gh}:∀ {n:Nat} {l:List (List (DE×Bool)×St)} {m:St},gath P st0 n l=some m -> ∀p∈l,PcOk X J p.1 ->
  (zCA X Pre m.obl J->zCA X Pre p.2.obl J) /\ ∀(g:Gh) (w:World) (a:Act),Mem P X w0 J p.2 g w->Env X J p.2 g a->Ext st0 g0 p.2 g -> ∃g',Mem P X w0 J m g' w/\Env X J m g' a/\Ext st0 g0 m g'
 | n,l,m,h,p,hp,hpc=>by
  unfold gath at h;split at h
  ·cases h;simp only[List.mem_singleton] at hp;subst hp;exact⟨fun h=>h,fun g w a h1 h2 h3=>⟨g,h1,h2,h3⟩⟩
  ·rename_i n e b pc s r _;split at h
   ·rename_i t hs;obtain⟨b',pc',k1,k2,k3⟩:=xGA hs p hp hpc;cases b' with
    | true=>exact zIB h (pc',p.2) k3 k2
    | false=>simp at k3
   ·rename_i f hs;obtain⟨b',pc',k1,k2,k3⟩:=xGA hs p hp hpc;cases b' with
    | true=>simp at k3
    | false=>exact zIB h (pc',p.2) k3 k2
   ·rename_i t f _ _ hs;obtain⟨b',pc',k1,k2,k3⟩:=xGA hs p hp hpc;split at h
    ·rename_i s1 s2 h1 h2;cases b' with
     | true =>
      obtain⟨i1,i2⟩:=zIB h1 (pc',p.2) k3 k2;refine⟨fun hob=>?_,fun g w a m1 m2 m3=>?_⟩
      ·rw[zPE h] at hob;exact i1 ((qIA (zUA.1 hob).1).1 k1)
      ·obtain⟨g',q1,q2,q3⟩:=i2 g w a m1 m2 m3;exact yAB true k1 q1 q2 q3 h
     | false =>
      obtain⟨i1,i2⟩:=zIB h2 (pc',p.2) k3 k2;refine⟨fun hob=>?_,fun g w a m1 m2 m3=>?_⟩
      ·rw[zPE h] at hob;exact i1 ((qIA (zUA.1 hob).1).2 k1)
      ·obtain⟨g',q1,q2,q3⟩:=i2 g w a m1 m2 m3;exact yAB false k1 q1 q2 q3 h
    ·cases h
   ·cases h
  ·cases h
theorem zIL(e a b:DE):((mkIf e a b).eval X J).asBool=if (e.eval X J).asBool then (a.eval X J).asBool else (b.eval X J).asBool:=by
 unfold mkIf;split
 ·cases hh:(e.eval X J).asBool <;> simp[DE.eval,D.asBool]
 ·rw[zFA];show (D.bool (!(e.eval X J).asBool)).asBool=_;cases hh:(e.eval X J).asBool <;> simp[DE.eval,D.asBool]
 ·simp only[DE.eval,zDA,Fn.eval];split <;> rfl
theorem xWC:∀ {n:Nat} {l:List (List (DE×Bool)×Bool)} {c:DE},yJK n l=some c -> ∀p∈l,PcOk X J p.1->(c.eval X J).asBool=p.2
 | n,l,c,h,p,hp,hpc=>by
  unfold yJK at h;split at h
  ·rename_i hall;cases h
   have:=List.all_eq_true.1 hall p hp
   simp[DE.eval,D.asBool,this]
  split at h
  ·rename_i hall;cases h
   have:=List.all_eq_true.1 hall p hp
   simp only[Bool.not_eq_true'] at this;simp[DE.eval,D.asBool,this]
  split at h
  ·split at h
   ·rename_i n e b pc x r _ _ t f hs;split at h
    ·rename_i a1 b1 h1 h2;cases h;obtain⟨b',pc',k1,k2,k3⟩:=xGA hs p hp hpc;rw[zIL,k1];cases b' with
     | true=>simp only[if_true];exact xWC h1 (pc',p.2) k3 k2
     | false=>simp only[bfZ,if_false];exact xWC h2 (pc',p.2) k3 k2
    ·cases h
   ·cases h
  ·cases h
theorem qQA{x:Ex}:xYB x=true↔x = .norm:=by cases x <;> simp[xYB]
theorem qAD{outs:List Out}{o:Out}(ho:o∈outs)(hn:o.ex = .norm):(o.pc,o.st)∈xZD outs:=by
 unfold xZD;exact List.mem_map.2 ⟨o,List.mem_filter.2 ⟨ho,qQA.2 hn⟩,rfl⟩
theorem qGF{outs:List Out}{o:Out}(ho:o∈outs)(hn:o.ex ≠ .norm):(o.pc,o.st)∈zAH outs:=by
 unfold zAH;refine List.mem_map.2 ⟨o,List.mem_filter.2 ⟨ho,?_⟩,rfl⟩;cases hx:xYB o.ex with
 | true=>exact absurd (qQA.1 hx) hn
 | false=>rfl
theorem qLD:∀ {outs:List Out},yZG outs=some none -> ∀o∈outs,o.ex = .norm
 | [],_,o,ho=>by cases ho
 | p::r,h,o,ho=>by
  simp only[yZG] at h;split at h
  ·cases h
  ·rename_i hr;split at h
   ·rename_i hn;rcases List.mem_cons.1 ho with rfl|ho
    ·exact qQA.1 hn
    ·exact qLD hr o ho
   ·simp at h
  ·split at h <;> simp at h
theorem qFF:∀ {outs:List Out} {x:Ex},yZG outs=some (some x) -> ∀o∈outs,o.ex ≠ .norm->o.ex=x
 | [],_,_,o,ho,_=>by cases ho
 | p::r,x,h,o,ho,hn=>by
  simp only[yZG] at h;split at h
  ·cases h
  ·rename_i hr;split at h
   ·simp at h
   ·simp only[Option.some.injEq] at h;rcases List.mem_cons.1 ho with rfl|ho
    ·exact h
    ·exact absurd (qLD hr o ho) hn
  ·rename_i y hr;split at h
   ·rename_i hc;simp only[Option.some.injEq] at h;subst h;rcases List.mem_cons.1 ho with rfl|ho
    ·simp only[Bool.or_eq_true,dtZ] at hc;rcases hc with hc|hc
     ·exact absurd (qQA.1 hc) hn
     ·exact hc
    ·exact qFF hr o ho hn
   ·cases h
theorem qPF{lv:Nat}{s:St}:∀ {l vs:List (Nat×VI)},yJE lv s l=some vs->(∀n vi,lk n vs=some vi->vi.vt = .dead∨(lk n s.vars=some vi/\vi.de.shut lv=true)) /\ ∀n vi,lk n l=some vi -> ∃vj,lk n vs=some vj
 | [],vs,h=>by simp only[yJE,Option.some.injEq] at h;subst h;exact⟨by simp[xDA,yLA],by simp[xDA,yLA]⟩
 | (m,x)::r,vs,h=>by
  simp only[yJE] at h;split at h
  ·rename_i vi r' hv hr;cases h;obtain⟨k1,k2⟩:=qPF hr;refine⟨fun n vj hn=>?_,fun n vj hn=>?_⟩
   ·by_cases hmn:m=n
    ·subst hmn;rw[zKA] at hn;cases hn;split
     ·rename_i hsh;exact .inr ⟨hv,hsh⟩
     ·exact .inl rfl
    ·rw[zIA hmn] at hn;exact k1 n vj hn
   ·by_cases hmn:m=n
    ·subst hmn;exact⟨_,zKA⟩
    ·rw[zIA hmn] at hn;obtain⟨vk,hk⟩:=k2 n vj hn;exact⟨vk,by rw[zIA hmn];exact hk⟩
  ·cases h
theorem qOF{lv:Nat}{s:St}:∀ {l os:List (Nat×List SV)},yIE lv s l=some os->(∀o cs,lk o os=some cs->lk o s.objs=some cs/\zVC lv [] cs=true) /\ ∀o cs,lk o l=some cs -> ∃c,lk o os=some c
 | [],os,h=>by simp only[yIE,Option.some.injEq] at h;subst h;exact⟨by simp[xDA,yLA],by simp[xDA,yLA]⟩
 | (m,x)::r,os,h=>by
  simp only[yIE] at h;split at h
  ·rename_i cs r' hv hr;split at h
   ·rename_i hcl;cases h;obtain⟨k1,k2⟩:=qOF hr;refine⟨fun n vj hn=>?_,fun n vj hn=>?_⟩
    ·by_cases hmn:m=n
     ·subst hmn;rw[zKA] at hn;cases hn;exact⟨hv,hcl⟩
     ·rw[zIA hmn] at hn;exact k1 n vj hn
    ·by_cases hmn:m=n
     ·subst hmn;exact⟨_,zKA⟩
     ·rw[zIA hmn] at hn;obtain⟨vk,hk⟩:=k2 n vj hn;exact⟨vk,by rw[zIA hmn];exact hk⟩
   ·cases h
  ·cases h
theorem xNE{lv:Nat}:∀ {l:List (Nat×SV)} {s:Nat} {v:SV},lk s (xME lv l)=some v->lk s l=some v/\v.closed lv []=true
 | [],_,_,h=>by simp[xME,xDA,yLA] at h
 | (m,x)::r,s,v,h=>by
  simp only[xME] at h;split at h
  ·rename_i hc;by_cases hm:m=s
   ·subst hm;rw[zKA] at h;cases h
    exact⟨zKA,hc⟩
   ·rw[zIA hm] at h;obtain⟨k1,k2⟩:=xNE h;exact⟨by rw[zIA hm];exact k1,k2⟩
  ·obtain⟨hne,h2⟩:=qYA h;obtain⟨k1,k2⟩:=xNE h2;exact⟨by rw[zIA hne];exact k1,k2⟩
theorem yWH{l:Lp}:∀ {r:List Lp},lpIn l r=true->l∈r
 | [],h=>by simp[lpIn] at h
 | x::r,h=>by
  simp only[lpIn,Bool.or_eq_true,baZ,beq_iff_eq] at h;rcases h with h|h
  ·obtain⟨⟨⟨h1,h2⟩,h3⟩,h4⟩:=h;obtain⟨r1,s1,e1,l1⟩:=x;obtain⟨r2,s2,e2,l2⟩:=l;simp only at h1 h2 h3 h4
   have:=SV.beq_eq h2
   subst h1;subst this;subst h3;subst h4
   simp
  ·exact List.mem_cons_of_mem _ (yWH h)
theorem qKI{B s W:St}{obl:List Ob}{Z:List D}{g0:Gh}(hw:qOL B s obl=some W)(h:Mem P X w0 Z s g w)(he:Env X Z s g a)(hδ:Z.take B.lvl=J)(hl:J.length=B.lvl)(hk:Kept B g0 g) :
  Mem P X w0 J W g w/\Env X J W g a/\Ext B g0 W g/\W.obl=obl:=by
 unfold qOL at hw;split at hw
 rotate_left
 ·cases hw
 rename_i vs os hvs hos;split at hw
 rotate_left
 ·cases hw
 rename_i hc;simp only[baZ,beq_iff_eq] at hc;cases hw;obtain⟨v1,v2⟩:=qPF hvs;obtain⟨o1,o2⟩:=qOF hos;have htake:Z.take B.lvl=J.take B.lvl:=by rw[hδ,List.take_of_length_le (by omega)]
 have hgh:GhEq [] g g:=⟨fun _ _=>⟨rfl,rfl⟩,fun _=>rfl⟩;refine⟨h.re _ hl rfl (fun o=>rfl) (fun n vi hn=>?_) (fun n m vi vj b h1 h2 h3 h4=>?_) (fun o cs hc'=>?_) (fun l hl'=>?_),⟨fun s' sv hs=>?_,he.df,by rw[he.sz];exact hc.2⟩,⟨fun n vi hn=>⟨v2 n vi hn,hk.rv n vi hn⟩,fun o cs ho=>⟨o2 o cs ho,hk.rb o cs ho⟩⟩,rfl⟩
 ·rcases v1 n vi hn with hd|⟨k1,k2⟩
  ·exact .inl hd
  ·exact .inr (.inl ⟨n,vi,k1,rfl,rfl,.inl rfl,(xFA htake k2).symm⟩)
 ·rcases v1 n vi h1 with hd|⟨k1,_⟩
  ·rw[hd] at h3;simp[zGA] at h3
  ·rcases v1 m vj h2 with hd|⟨k2,_⟩
   ·rw[hd] at h4;simp[zGA] at h4
   ·exact h.vv n m vi vj b k1 k2 h3 h4
 ·obtain⟨k1,k2⟩:=o1 o cs hc';exact⟨cs,k1,(qNB htake hgh k2).symm,yIC htake k2 (h.ob o cs k1).2.2⟩
 ·have:=List.all_eq_true.1 hc.1 l hl'
  simp only[baZ,dtZ] at this;obtain⟨⟨q1,q2⟩,q3⟩:=this;obtain⟨b,off,len,cap,k,i,k1,k2,k3,k4,k5⟩:=h.lp l (yWH q1);refine⟨b,off,len,cap,k,i,by rw[zGB htake hgh q3];exact k1,?_,k3,k4,k5⟩;have e1:(Z.take B.lvl)[l.lvl]? = Z[l.lvl]?:=by rw[List.getElem?_take];simp[q2]
  rw[<- hδ,e1,k2]
 ·obtain⟨k1,k2⟩:=xNE hs;obtain⟨t1,t2⟩:=he.tm s' sv k1;exact⟨by rw[t1,zGB htake hgh k2],yHC htake k2 t2⟩
end
end Go.Dx
namespace Go.Dx
open Go
section
variable {P:Program} {X:Nat->List D->D} {Pre:Nat->List D->Prop} {w0:Base} {J δ':List D} {st:St} {g g':Gh} {w:World} {a:Act}
theorem zBK{i:Nat}{b:Code}{lp:LoopP}(h:xZC (.block i b)=some lp):lp.bid=i:=by
 unfold xZC at h;split at h
 ·rename_i bid body heq;cases heq;split at h
  ·split at h
   ·split at h
    ·cases h;rfl
    ·cases h
   ·cases h
  ·cases h
 ·cases h
theorem ySH{B h0 h:St}{cars:List (Pl×Cr)}{d:DE}{lp:LoopP}{outs fin:List Out}(hend:qCB P B h0 h cars d lp outs=some fin):∀o∈fin,∀x∈B.obl,x∈o.st.obl:=by
 unfold qCB at hend;simp only at hend;split at hend
 rotate_left
 ·cases hend
 split at hend
 ·split at hend
  ·split at hend
   ·split at hend
    ·split at hend
     ·cases hend;intro o ho x hx;simp only[List.mem_singleton] at ho;subst ho
      exact List.mem_cons_of_mem _ hx
     ·cases hend
    ·cases hend
   ·cases hend
  ·cases hend
 ·split at hend
  ·split at hend
   ·split at hend
    ·split at hend
     ·split at hend
      ·rename_i W hW;cases hend;intro o ho x hx;have hobl:=hW;unfold qOL at hobl;rcases List.mem_cons.1 ho with rfl|ho
       ·exact List.mem_cons_of_mem _ hx
       ·simp only[List.mem_singleton] at ho;subst ho
        split at hobl
        ·split at hobl
         ·cases hobl;exact List.mem_cons_of_mem _ hx
         ·cases hobl
        ·cases hobl
      ·cases hend
     ·cases hend
    ·cases hend
   ·cases hend
  ·cases hend
 ·cases hend
theorem qBL(e:DE)(x y:Ex)(s t:St)(J:List D):∃o∈[(⟨[(e,false)],x,s⟩:Out),⟨[(e,true)],y,t⟩],PcOk X J o.pc:=by
 cases hb:(e.eval X J).asBool with
 | false=>exact⟨_,List.mem_cons_self,fun p hp=>by simp only[List.mem_singleton] at hp;subst hp;exact hb⟩
 | true=>exact⟨_,List.mem_cons_of_mem _ (List.mem_singleton.2 rfl),fun p hp=>by simp only[List.mem_singleton] at hp;subst hp;exact hb⟩
theorem xED{B h0 h:St}{cars:List (Pl×Cr)}{d:DE}{lp:LoopP}{outs fin:List Out}(hend:qCB P B h0 h cars d lp outs=some fin)(J:List D):∃o∈fin,PcOk X J o.pc:=by
 unfold qCB at hend;simp only at hend;split at hend
 rotate_left
 ·cases hend
 split at hend
 ·split at hend
  ·split at hend
   ·split at hend
    ·split at hend
     ·cases hend;exact⟨_,List.mem_cons_self,PcOk.nil⟩
     ·cases hend
    ·cases hend
   ·cases hend
  ·cases hend
 ·split at hend
  ·split at hend
   ·split at hend
    ·split at hend
     ·split at hend
      ·cases hend;exact qBL _ _ _ _ _ J
      ·cases hend
     ·cases hend
    ·cases hend
   ·cases hend
  ·cases hend
 ·cases hend
theorem qVC(e:DE)(J:List D):zDA X [e] J=[e.eval X J]:=rfl
theorem loopG0{ex:ExecF}(hex:ExOk P X Pre ex){i:Nat}{b:Code}{lp:LoopP}(hlp:xZC (.block i b)=some lp){B h0 h:St}{cars:List (Pl×Cr)}{d':DE}{outs fin:List Out}{tnS:SV}
  (hho:xWE B h0 cars tnS lp=true) (houts:ex [.block lp.inner lp.body] h=some outs) (hend:qCB P B h0 h cars d' lp outs=some fin)
  (hBv:∀n vi,lk n B.vars=some vi -> ∃vj,lk n h.vars=some vj) (hBo:∀o cs,lk o B.objs=some cs -> ∃c,lk o h.objs=some c) (hhnt:h.nt=h0.nt) (hhenv:∀s v,lk s h.env=some v->(s=lp.ti/\v = .i lp.kd (.v B.lvl))∨(s≠lp.ti/\lk s h0.env=some v))
  {rows:List D} (hrows:(d'.eval X J).rows=rows)
  (hnum:∀(Z:List D) (gk:Gh) (w':World),Z.take B.lvl=J->Mem P X w0 Z h0 gk w'->tnS.ok X Z -> ∃nn:Int,tnS.den X Z gk = .int lp.kd nn/\rows.length=nn.toNat/\(rows.length:Int)<=lp.kd.max)
  (henter:∀(k:Nat) (acc:List D) (gk:Gh) (w':World),k<rows.length->Mem P X w0 (J++(.int k::rows.getD k .nil::acc)) h0 gk w' -> ∃gr,Enters P X w0 B h0 h lp.ti (J++(.int k::rows.getD k .nil::acc)) gk w' gr)
  (hm:Mem P X w0 J B g w) (he:∀s sv,lk s B.env=some sv->a.tmps[s]? = some (sv.den X J g)/\sv.ok X J) (hdf:a.defers=[]) (hsz:a.tmps.size=B.nt) (hti:a.tmps[lp.ti]? = some (.int lp.kd 0))
  (hob:∀o∈fin,PcOk X J o.pc->zCA X Pre o.st.obl J) (Q:Exit->Act->World->Prop)
  (hQ:∀o∈fin,PcOk X J o.pc -> ∀g' w' a',Ext B g o.st g'->Mem P X w0 J o.st g' w'->Env X J o.st g' a'->Q o.ex.toExit a' w'):(Code.block i b).wp P Q a w:=by
 have hbid:=zBK hlp;obtain⟨hobe,hnd,hco,hnti,hsls,htn',hlt1,hkv,hko⟩:=xIC hho;have hlv:=hm.lv;have hδt:J.take B.lvl=J:=List.take_of_length_le (by omega);have hend0:=hend;unfold qCB at hend;simp only at hend;split at hend
 rotate_left
 ·cases hend
 rename_i inits hfit0;split at hend
 ·skip
  rename_i hse;have hall:=qLD hse;split at hend
  rotate_left
  ·cases hend
  rename_i hl0;simp only[beq_iff_eq] at hl0;split at hend
  rotate_left
  ·cases hend
  rename_i s2 hg2;split at hend
  rotate_left
  ·cases hend
  rename_i hti2;split at hend
  rotate_left
  ·cases hend
  rename_i bodies hfit2;cases hend;have hob1:=hob _ List.mem_cons_self PcOk.nil;obtain⟨hobA,_⟩:=hob1;simp only[Ob.holds] at hobA;rw[hrows] at hobA;have hgs:=fun(Z:List D) (o:Out) (ho:o∈outs) (hpc:PcOk X Z o.pc) (hn:o.ex = .norm) (g0:Gh)=>zIB (P:=P) (X:=X) (Pre:=Pre) (w0:=w0) (g0:=g0) hg2 (o.pc,o.st) (qAD ho hn) hpc
  refine loopH (d':=d') hex hlp (itail:=[]) (tail:=[]) hho (by simpa using hl0) rfl houts hhnt hhenv hfit0 (yMI hti2) hfit2 (rows:=rows) _ rfl _ rfl _ rfl hnum
   (fun k gk w' hk hmk=>henter k _ gk w' hk hmk) (fun Z o ho hpc hn g0=>(hgs Z o ho hpc hn g0).2) (fun _=>True) trivial (fun _ _ _ _ _ _ _=>trivial)
   (fun k hk _ o ho hpc=>(hgs _ o ho hpc (hall o ho) g).1 (by
    have:=hobA k hk
    simpa only[List.append_nil] using this)) hm he hdf hsz hti Q (fun gk w' a' _ hkept hmk henv hdf' hsz'=>?_) (fun k hk _ o ho hpc hn=>absurd (hall o ho) hn)
  have hpost:=xFE (lv:=B.lvl) (cars:=cars) (B:=B) (T:={ env:=xWB B.lvl d' inits bodies cars h0.env,vars:=xRA B.lvl d' inits bodies cars 0 h0.vars,objs:=yRB B.lvl d' inits bodies cars h0.objs,loops:=h0.loops,obl:=.all d' inits bodies s2.obl::B.obl,lvl:=B.lvl,nx:=s2.nx,nt:=h0.nt })
   (d:=d') (inits:=inits) (bodies:=bodies) hmk (a:=a') henv hlv hfit0 hnd hco (fun j=>by
    simp only[DE.eval,List.append_nil];rw[hδt,hrows,List.take_length]) rfl
  refine hQ _ List.mem_cons_self PcOk.nil gk w' a' ⟨fun n vi hn=>?_,fun o cs hc=>?_⟩ hpost.1 ⟨hpost.2,hdf',hsz'⟩
  ·obtain⟨⟨vj,hj⟩,_⟩:=yJA hkv hn;exact⟨zJB hj,hkept.rv n vi hn⟩
  ·obtain⟨⟨cj,hj⟩,_⟩:=yJA hko hc;exact⟨⟨_,by simp only;rw[qVB,hj];rfl⟩,hkept.rb o cs hc⟩
 ·skip
  rename_i x hse;have hstopx:=fun o ho hn=>qFF hse o ho hn
  split at hend
  rotate_left
  ·cases hend
  rename_i hl0;simp only[beq_iff_eq] at hl0;split at hend
  rotate_left
  ·cases hend
  rename_i s2 s3 stop hg2 hg3 htree;split at hend
  rotate_left
  ·cases hend
  rename_i hti2;split at hend
  rotate_left
  ·cases hend
  rename_i bodies hfit2;split at hend
  rotate_left
  ·cases hend
  rename_i W hW;cases hend;generalize hbs:bodies++[.f .ite [.v (B.lvl+2+cars.length),.k (.bool true),stop]]=bodies' at *;generalize his:inits++[.k (.bool false)]=inits' at *;generalize hobl':Ob.all d' inits' bodies' [.when (.v (B.lvl+2+cars.length)) false (zWB stop s3.obl s2.obl)]::B.obl=obl' at *
  let step:Nat->D->List D->List D:=fun i r acc=>zDA X bodies' (J++(.int i::r::acc))
  let acc:Nat->List D:=fun k=>yIA step 0 (rows.take k) (zDA X inits' J)
  let dk:Nat->D->List D:=fun k y=>J++(.int k::y::acc k)
  have hfe:∀j,(DE.fold B.lvl d' inits' bodies' j).eval X J=(acc rows.length).getD j .nil:=fun j=>by
   simp only[DE.eval];rw[hδt,hrows];show _=(yIA step 0 (rows.take rows.length) (zDA X inits' J)).getD j .nil;rw[List.take_length]
  let flag:Nat->Bool:=fun k=>((acc k).getD cars.length .nil).asBool
  have hilen:inits.length=cars.length:=(qJB hm (by omega) hfit0 hnd hco [D.nil] (by simpa using hl0) he .nil .nil).2.2.2;have hflag0:flag 0=false:=by
   show ((yIA step 0 (rows.take 0) (zDA X inits' J)).getD cars.length .nil).asBool=false;rw[<- his,zKC];simp only[List.take_zero,yIA];rw[List.getD_eq_getElem?_getD,List.getElem?_append_right (by rw[yUA];omega),yUA,hilen];simp[zDA,DE.eval,D.asBool]
  have hbl:bodies.length=cars.length:=by
   unfold fits at hfit2;split at hfit2
   ·rename_i ds hds;split at hfit2
    ·cases hfit2
     have:=(qTD hds).1
     simp[this]
    ·cases hfit2
   ·cases hfit2
  have hdkv:∀k y,(DE.v (B.lvl+2+cars.length)).eval X (dk k y)=(acc k).getD cars.length .nil:=fun k y=>by
   simp only[DE.eval]
   have:=zHE (J:=J) (lv:=B.lvl) (by omega) (.int k) y (acc k) cars.length
   rw[hδt] at this;exact this
  have haccS:∀k,k<rows.length->acc (k+1)=zDA X bodies' (dk k (rows.getD k .nil)):=fun k hk=>by
   show yIA step 0 (rows.take (k+1)) _=_;have e1:rows.take (k+1)=rows.take k++[rows.getD k .nil]:=by
    rw[List.take_add_one]
    congr 1
    simp[List.getD,hk]
   rw[e1,zHB];simp only[Nat.zero_add,List.length_take,Nat.min_eq_left (Nat.le_of_lt hk)];rfl
  have hflagS:∀k,k<rows.length->flag (k+1)=(flag k || (stop.eval X (dk k (rows.getD k .nil))).asBool):=fun k hk=>by
   show ((acc (k+1)).getD cars.length .nil).asBool=_;rw[haccS k hk,<- hbs,zKC];rw[List.getD_eq_getElem?_getD,List.getElem?_append_right (by rw[yUA];omega),yUA,hbl];simp only[Nat.sub_self,qVC,List.getElem?_cons_zero,Option.getD_some];show (if ((DE.v (B.lvl+2+cars.length)).eval X (dk k (rows.getD k .nil))).asBool=true then D.bool true else stop.eval X (dk k (rows.getD k .nil))).asBool=_;rw[hdkv];show (if flag k=true then D.bool true else stop.eval X (dk k (rows.getD k .nil))).asBool=_;cases hf:flag k <;> simp[D.asBool]
  have hsticky:∀k,k<=rows.length->flag k=true->flag rows.length=true:=fun k hk hf=>by
   have:∀j,k+j<=rows.length->flag (k+j)=true:=by
    intro j
    induction j with
    | zero=>intro _;exact hf
    | succ j ih =>
     intro hj;rw[<- Nat.add_assoc,hflagS (k+j) (by omega),ih (by omega)];rfl
   have:=this (rows.length-k) (by omega)
   rwa [show k+(rows.length-k)=rows.length by omega] at this
  have htree':=fun(Z:List D) (o:Out) (ho:o∈outs) (hpc:PcOk X Z o.pc)=>xWC (X:=X) (J:=Z) htree (o.pc,!xYB o.ex) (List.mem_map.2 ⟨o,ho,rfl⟩) hpc
  obtain⟨fo,hfo,hfpc⟩:=xED (X:=X) hend0 J;have hWo:W.obl=obl':=by
   have hobl:=hW;unfold qOL at hobl;split at hobl
   ·split at hobl
    ·cases hobl;rfl
    ·cases hobl
   ·cases hobl
  have hobl:zCA X Pre obl' J:=by
   have h1:=hob fo (by
    unfold qCB at hend0;simp only[hfit0,hse,hg2,hg3,htree,hti2,hfit2,hl0,beq_self_eq_true,if_true,his,hbs,hobl',hW] at hend0;cases hend0;exact hfo) hfpc
   unfold qCB at hend0;simp only[hfit0,hse,hg2,hg3,htree,hti2,hfit2,hl0,beq_self_eq_true,if_true,his,hbs,hobl',hW] at hend0;cases hend0;rcases List.mem_cons.1 hfo with rfl|hfo
   ·exact h1
   ·simp only[List.mem_singleton] at hfo;subst hfo
    rw[hWo] at h1;exact h1
  have hobA:∀k,k<rows.length->flag k=false->zCA X Pre (zWB stop s3.obl s2.obl) (dk k (rows.getD k .nil)):=fun k hk hf=>by
   rw[<- hobl'] at hobl;have h1:=hobl.1;simp only[Ob.holds] at h1;rw[hrows] at h1;have h2:=(h1 k hk).1;simp only[Ob.holds] at h2;refine h2 ?_;rw[hdkv k (rows.getD k .nil)];exact hf
  have hgs:=fun(Z:List D) (o:Out) (ho:o∈outs) (hpc:PcOk X Z o.pc) (hn:o.ex = .norm) (g0:Gh)=>zIB (P:=P) (X:=X) (Pre:=Pre) (w0:=w0) (g0:=g0) hg2 (o.pc,o.st) (qAD ho hn) hpc
  have hgs3:=fun(Z:List D) (o:Out) (ho:o∈outs) (hpc:PcOk X Z o.pc) (hn:o.ex ≠ .norm) (g0:Gh)=>zIB (P:=P) (X:=X) (Pre:=Pre) (w0:=w0) (g0:=g0) hg3 (o.pc,o.st) (qGF ho hn) hpc
  have hstopN:∀Z o,o∈outs->PcOk X Z o.pc->o.ex = .norm->(stop.eval X Z).asBool=false:=fun Z o ho hpc hn=>by
   rw[htree' Z o ho hpc];simp[hn,xYB]
  have hstopS:∀Z o,o∈outs->PcOk X Z o.pc->o.ex ≠ .norm->(stop.eval X Z).asBool=true:=fun Z o ho hpc hn=>by
   rw[htree' Z o ho hpc];cases hx:xYB o.ex with
   | true=>exact absurd (qQA.1 hx) hn
   | false=>rfl
  refine loopH (d':=d') hex hlp (itail:=[.k (.bool false)]) (tail:=[.f .ite [.v (B.lvl+2+cars.length),.k (.bool true),stop]]) hho (by simpa using hl0) rfl houts hhnt hhenv hfit0 (yMI hti2) hfit2 (rows:=rows) step (by rw[hbs]) acc (by rw[his]) dk rfl hnum
   (fun k gk w' hk hmk=>henter k _ gk w' hk hmk) (fun Z o ho hpc hn g0=>(hgs Z o ho hpc hn g0).2) (fun k=>flag k=false) hflag0
   (fun k hk hf o ho hpc hn=>by rw[hflagS k hk,hf,hstopN _ o ho hpc hn];rfl)
   (fun k hk hf o ho hpc=>by
    have hmo:=qIA (hobA k hk hf);by_cases hn:o.ex = .norm
    ·exact(hgs _ o ho hpc hn g).1 (hmo.2 (hstopN _ o ho hpc hn))
    ·exact(hgs3 _ o ho hpc hn g).1 (hmo.1 (hstopS _ o ho hpc hn))) hm he hdf hsz hti Q (fun gk w' a' hf hkept hmk henv hdf' hsz'=>?_) (fun k hk hf o ho hpc hn g0 g1 w' a' hkept hx1 hm1 he1=>?_)
  ·have hpost:=xFE (lv:=B.lvl) (cars:=cars) (B:=B) (T:={ env:=xWB B.lvl d' inits' bodies' cars h0.env,vars:=xRA B.lvl d' inits' bodies' cars 0 h0.vars,objs:=yRB B.lvl d' inits' bodies' cars h0.objs,loops:=h0.loops,obl:=obl',lvl:=B.lvl,nx:=s2.nx,nt:=h0.nt })
    (d:=d') (inits:=inits') (bodies:=bodies') hmk (a:=a') henv hlv hfit0 hnd hco (fun j=>hfe j) rfl
   refine hQ _ (List.mem_cons_self) (fun p hp=>by
    simp only[List.mem_singleton] at hp;subst hp
    show ((DE.fold B.lvl d' inits' bodies' cars.length).eval X J).asBool=false;rw[hfe];exact hf) gk w' a' ⟨fun n vi hn=>?_,fun o cs hc=>?_⟩ hpost.1 ⟨hpost.2,hdf',hsz'⟩
   ·obtain⟨⟨vj,hj⟩,_⟩:=yJA hkv hn;exact⟨zJB hj,hkept.rv n vi hn⟩
   ·obtain⟨⟨cj,hj⟩,_⟩:=yJA hko hc;exact⟨⟨_,by simp only;rw[qVB,hj];rfl⟩,hkept.rb o cs hc⟩
  ·obtain⟨g2,q2,q3,q1⟩:=(hgs3 _ o ho hpc hn g0).2 g1 w' a' hm1 he1 hx1;have hk2:Kept B g g2:=⟨fun n vi hn=>by
    obtain⟨vj,hj⟩:=hBv n vi hn;obtain⟨_,e1,e2⟩:=hx1.rv n vj hj;obtain⟨_,e3,e4⟩:=q1.rv n vj hj;obtain⟨k1,k2⟩:=hkept.rv n vi hn;exact⟨by rw[e3,<- e1,k1],by rw[e4,<- e2,k2]⟩,fun o cs ho=>by
    obtain⟨cj,hj⟩:=hBo o cs ho;obtain⟨_,e1⟩:=hx1.rb o cj hj;obtain⟨_,e3⟩:=q1.rb o cj hj;rw[e3,<- e1];exact hkept.rb o cs ho⟩
   obtain⟨p1,p2,p3,_⟩:=qKI hW q2 q3 (J:=J) (by
    show (J++_).take _=_;rw[List.take_append_of_le_length (by omega),hδt]) hlv hk2
   have hfk:flag rows.length=true:=hsticky (k+1) hk (by rw[hflagS k hk,hstopS _ o ho hpc hn];simp);have hfin:=hQ ⟨[(.fold B.lvl d' inits' bodies' cars.length,true)],zVL lp.bid x,W⟩ (List.mem_cons_of_mem _ (List.mem_singleton.2 rfl)) (fun p hp=>by
    simp only[List.mem_singleton] at hp;subst hp
    show ((DE.fold B.lvl d' inits' bodies' cars.length).eval X J).asBool=true;rw[hfe];exact hfk) g2 w' a' p3 p1 p2
   rw[hstopx o ho hn,<- hbid];exact hfin
 ·cases hend
end
end Go.Dx
namespace Go.Dx
open Go
section
variable {P:Program} {X:Nat->List D->D} {Pre:Nat->List D->Prop} {w0:Base} {J δ':List D} {st:St} {g g':Gh} {w:World} {a:Act}
theorem yNF{B h0 h:St}{cars:List (Pl×Cr)}{d:DE}{lp:LoopP}{outs fin:List Out}(hend:yYE P B h0 h cars d lp outs=some fin):∀o∈fin,∀x∈B.obl,x∈o.st.obl:=ySH hend
theorem zLE{B h0 h:St}{cars:List (Pl×Cr)}{d:DE}{lp:LoopP}{outs fin:List Out}(hend:yYE P B h0 h cars d lp outs=some fin)(J:List D):∃o∈fin,PcOk X J o.pc:=xED hend J
theorem loopG{ex:ExecF}(hex:ExOk P X Pre ex){i:Nat}{b:Code}{lp:LoopP}(hlp:xZC (.block i b)=some lp){B h0 h:St}{cars:List (Pl×Cr)}{d':DE}{outs fin:List Out}{tnS:SV}
  (hho:xWE B h0 cars tnS lp=true) (houts:ex [.block lp.inner lp.body] h=some outs) (hend:yYE P B h0 h cars d' lp outs=some fin)
  (hBv:∀n vi,lk n B.vars=some vi -> ∃vj,lk n h.vars=some vj) (hBo:∀o cs,lk o B.objs=some cs -> ∃c,lk o h.objs=some c) (hhnt:h.nt=h0.nt) (hhenv:∀s v,lk s h.env=some v->(s=lp.ti/\v = .i lp.kd (.v B.lvl))∨(s≠lp.ti/\lk s h0.env=some v))
  {rows:List D} (hrows:(d'.eval X J).rows=rows)
  (hnum:∀(Z:List D) (gk:Gh) (w':World),Z.take B.lvl=J->Mem P X w0 Z h0 gk w'->tnS.ok X Z -> ∃nn:Int,tnS.den X Z gk = .int lp.kd nn/\rows.length=nn.toNat/\(rows.length:Int)<=lp.kd.max)
  (henter:∀(k:Nat) (acc:List D) (gk:Gh) (w':World),k<rows.length->Mem P X w0 (J++(.int k::rows.getD k .nil::acc)) h0 gk w' -> ∃gr,Enters P X w0 B h0 h lp.ti (J++(.int k::rows.getD k .nil::acc)) gk w' gr)
  (hm:Mem P X w0 J B g w) (he:∀s sv,lk s B.env=some sv->a.tmps[s]? = some (sv.den X J g)/\sv.ok X J) (hdf:a.defers=[]) (hsz:a.tmps.size=B.nt) (hti:a.tmps[lp.ti]? = some (.int lp.kd 0))
  (hob:∀o∈fin,PcOk X J o.pc->zCA X Pre o.st.obl J) (Q:Exit->Act->World->Prop)
  (hQ:∀o∈fin,PcOk X J o.pc -> ∀g' w' a',Ext B g o.st g'->Mem P X w0 J o.st g' w'->Env X J o.st g' a'->Q o.ex.toExit a' w'):(Code.block i b).wp P Q a w :=
 loopG0 hex hlp hho houts hend hBv hBo hhnt hhenv hrows hnum henter hm he hdf hsz hti hob Q hQ
end
end Go.Dx
namespace Go.Dx
open Go
section
variable {P:Program} {X:Nat->List D->D} {Pre:Nat->List D->Prop} {w0:Base} {J δ':List D} {st:St} {g g':Gh} {w:World} {a:Act}
theorem yVH{ex:ExecF}{B h0:St}{cars:List (Pl×Cr)}{src:SV}{d:DE}{t e:TypeId}{lp:LoopP}{fin:List Out}(hV:zAL P ex B h0 cars src d t e lp=some fin) :
  ∃i h outs,svT P h0 t src=some d/\P.info? e=some i/\(P.underlying e=some (.int .u8)->i.size=1)/\d.shut B.lvl=true/\src.closed B.lvl (msOf cars)=true/\xWE B h0 cars (.i .i64 (.f .len [d])) lp=true/\lp.kd = .i64 /\
   yBH B.lvl e src lp.ti h0.nx h0=some h/\ex [.block lp.inner lp.body] h=some outs/\yYE P B h0 h cars d lp outs=some fin:=by
 unfold zAL at hV;split at hV
 rotate_left
 ·cases hV
 rename_i d' i hsv hinf;split at hV
 rotate_left
 ·cases hV
 rename_i hc;simp only[baZ,dtZ] at hc;obtain⟨⟨⟨⟨⟨h8,hdd⟩,hsh⟩,hcl⟩,hho⟩,hkd⟩:=hc
 have:=DE.beq_eq hdd
 subst this;split at hV
 rotate_left
 ·cases hV
 rename_i h hent;split at hV
 rotate_left
 ·cases hV
 rename_i outs houts;exact⟨i,h,outs,hsv,hinf,qII h8,hsh,hcl,hho,hkd,hent,houts,hV⟩
theorem ok_src{Z:List D}{s:St}{t e:TypeId}{src:SV}{d:DE}(hu:P.underlying t=some (.slice e))(hsv:svT P s t src=some d):src.ok X Z:=by
 unfold svT at hsv;cases src <;> first|trivial|(simp[hu,zHA] at hsv)
theorem yTI{ex:ExecF}(hex:ExOk P X Pre ex){i:Nat}{b:Code}{lp:LoopP}(hlp:xZC (.block i b)=some lp){B h0:St}{cars:List (Pl×Cr)}{src:SV}{d:DE}{t e:TypeId}{fin:List Out}(hu:P.underlying t=some (.slice e))
  (hV:zAL P ex B h0 cars src d t e lp=some fin) (hm:Mem P X w0 J B g w) (he:∀s sv,lk s B.env=some sv->a.tmps[s]? = some (sv.den X J g)/\sv.ok X J) (hdf:a.defers=[]) (hsz:a.tmps.size=B.nt)
  (hti:a.tmps[lp.ti]? = some (.int .i64 0)) (hob:∀o∈fin,PcOk X J o.pc->zCA X Pre o.st.obl J) (Q:Exit->Act->World->Prop)
  (hQ:∀o∈fin,PcOk X J o.pc -> ∀g' w' a',Ext B g o.st g'->Mem P X w0 J o.st g' w'->Env X J o.st g' a'->Q o.ex.toExit a' w'):(Code.block i b).wp P Q a w:=by
 obtain⟨inf,h,outs,hsv,hinf,hu8,hdsh,hscl,hho,hkd,hent,houts,hend⟩:=yVH hV;obtain⟨hobe,hnd,hco,hnti,hsls,htn',hlt1,hkv,hko⟩:=xIC hho;obtain⟨hfr,hsmen,hdef⟩:=qNJ hent;have hlv:=hm.lv;have hδt:J.take B.lvl=J:=List.take_of_length_le (by omega);have hdev:∀Z:List D,Z.take B.lvl=J->d.eval X Z=d.eval X J:=fun Z hξ=>xFA (by rw[hξ,hδt]) hdsh
 have hne:∀n vi,lk n B.vars=some vi->n≠h0.nx:=fun n vi hn e=>by
  obtain⟨⟨vj,hj⟩,_⟩:=yJA hkv hn;rw[e,qGA hfr] at hj;cases hj
 have hBv:∀n vi,lk n B.vars=some vi -> ∃vj,lk n h.vars=some vj:=fun n vi hn=>by
  obtain⟨⟨vj,hj⟩,_⟩:=yJA hkv hn;exact⟨vj,by rw[hdef];show lk n ((h0.nx,_)::h0.vars)=_;rw[zIA (Ne.symm (hne n vi hn))];exact hj⟩
 have hBo:∀o cs,lk o B.objs=some cs -> ∃c,lk o h.objs=some c:=fun o cs hc=>by
  obtain⟨⟨cj,hj⟩,_⟩:=yJA hko hc;exact⟨cj,by rw[hdef];exact hj⟩
 have hδh:∀(k:Nat) (y:D) (acc:List D),(J++(.int k::y::acc)).take B.lvl=J:=fun k y acc=>by
  rw[List.take_append_of_le_length (by omega),hδt]
 refine loopG hex hlp hho houts hend hBv hBo (by rw[hdef]) (fun s v hs=>?_) rfl (fun Z gk w' hξ hmk hok=>?_) (fun k acc gk w' hk hmk=>?_) hm he hdf hsz (by rw[hkd];exact hti) hob Q hQ
 ·rw[hdef] at hs;by_cases hst:lp.ti=s
  ·subst hst;simp only[zZA,Option.some.injEq] at hs;exact .inl ⟨rfl,by rw[hkd];exact hs.symm⟩
  ·simp only at hs;rw[yMA hst] at hs;exact .inr ⟨Ne.symm hst,hs⟩
 ·have hrep:=xBA hmk (ok_src hu hsv) hsv;obtain⟨l1,l2,_⟩:=hrep.rowAt hu hinf hu8;rw[hdev Z hξ] at l1 l2;refine⟨((d.eval X J).len:Int),?_,by omega,by rw[hkd];have:(d.eval X J).rows.length<=9223372036854775807:=(by rw[<- l1];exact l2);show _<=(9223372036854775807:Int);omega⟩;rw[hkd];simp only[SV.den,DE.eval,zDA,Fn.eval,D.asInt];rw[hdev Z hξ]
 ·generalize hξ:J++(.int (k:Nat)::(d.eval X J).rows.getD k .nil::acc)=Z at hmk;have hξt:Z.take B.lvl=J:=by rw[<- hξ];exact hδh _ _ _
  have hrep:=xBA hmk (ok_src hu hsv) hsv;obtain⟨l1,l2,l3⟩:=hrep.rowAt hu hinf hu8;rw[hdev Z hξt] at l3;obtain⟨bb,off,len,cap,rv,hsd,hklen,hrepk,hokb,hcells⟩:=l3 k hk;have hδlv:Z[B.lvl]? = some (.int (k:Nat)):=by rw[<- hξ,List.getElem?_append_right (by omega)];simp[hlv]
  have hδlv1:(DE.v (B.lvl+1)).eval X Z=(d.eval X J).rows.getD k .nil:=by
   rw[<- hξ];show (J++_).getD _ _=_;rw[List.getD_eq_getElem?_getD,List.getElem?_append_right (by omega)];rw[show B.lvl+1-J.length=1 by omega];rfl
  have hrowM:=hmk.change (Fr.refl (fun _=>False) w') (fun b _ e=>e.elim) h0 rfl (fun l hl=>hl) (fun o cs ho=>⟨ho,fun e=>e⟩) (fun m vi hm=>.inr ⟨hm,fun b _ e=>e⟩) h0.nx ⟨.row e,.v (B.lvl+1)⟩ rv (bb,off+k*inf.size) hfr
   (by simp[zGA]) (fun ok' h1 h2=>by
    simp only[zEB];rw[hδlv1];exact⟨hrepk.mono h1 (fun _ _=>rfl),h1 bb hokb,hcells⟩)
  obtain⟨fden,_⟩:=zUG (X:=X) (J:=Z) (g:=gk) hfr rv (bb,off+k*inf.size);have hsden:src.den X Z (gk.setV h0.nx rv (bb,off+k*inf.size))=src.den X Z gk:=yCD X Z gk h0.nx rv _ src hsmen;refine⟨gk.setV h0.nx rv (bb,off+k*inf.size),?_,fden,fun n vi hn=>⟨hBv n vi hn,?_⟩,fun o cs hc=>⟨hBo o cs hc,rfl⟩⟩
  ·rw[hdef];refine⟨hrowM.va,hrowM.ob,hrowM.oo,hrowM.vv,hrowM.ov,hrowM.lo,fun l hl=>?_,hrowM.fr,hrowM.lv,hrowM.ex,hrowM.gl⟩;rcases List.mem_cons.1 hl with rfl|hl
   ·exact⟨bb,off,len,cap,k,inf,by rw[hsden];exact hsd,hδlv,hklen,hinf,by simp[Gh.setV]⟩
   ·exact hrowM.lp l hl
  ·have:=hne n vi hn
   simp[Gh.setV,this]
theorem yUH{ex:ExecF}(hex:ExOk P X Pre ex){i:Nat}{b:Code}{lp:LoopP}(hlp:xZC (.block i b)=some lp){B h0:St}{cars:List (Pl×Cr)}{e:DE}{fin:List Out}
  (hV:yTH P ex B h0 cars e lp=some fin) (hm:Mem P X w0 J B g w) (he:∀s sv,lk s B.env=some sv->a.tmps[s]? = some (sv.den X J g)/\sv.ok X J) (hdf:a.defers=[]) (hsz:a.tmps.size=B.nt)
  (hti:a.tmps[lp.ti]? = some (.int lp.kd 0)) (hob:∀o∈fin,PcOk X J o.pc->zCA X Pre o.st.obl J) (Q:Exit->Act->World->Prop)
  (hQ:∀o∈fin,PcOk X J o.pc -> ∀g' w' a',Ext B g o.st g'->Mem P X w0 J o.st g' w'->Env X J o.st g' a'->Q o.ex.toExit a' w'):(Code.block i b).wp P Q a w:=by
 unfold yTH at hV;split at hV
 rotate_left
 ·cases hV
 rename_i hc;simp only[baZ] at hc;obtain⟨hesh,hho⟩:=hc;split at hV
 rotate_left
 ·cases hV
 rename_i outs houts;obtain⟨hobe,hnd,hco,hnti,hsls,htn',hlt1,hkv,hko⟩:=xIC hho;have hlv:=hm.lv;have hδt:J.take B.lvl=J:=List.take_of_length_le (by omega);have hBv:∀n vi,lk n B.vars=some vi -> ∃vj,lk n (xTE lp.kd B.lvl lp.ti h0).vars=some vj:=fun n vi hn=>(yJA hkv hn).1
 have hBo:∀o cs,lk o B.objs=some cs -> ∃c,lk o (xTE lp.kd B.lvl lp.ti h0).objs=some c:=fun o cs hc=>(yJA hko hc).1
 refine loopG hex hlp hho houts hV hBv hBo rfl (fun s v hs=>?_) rfl (fun Z gk w' hξ hmk hok=>?_) (fun k acc gk w' hk hmk=>?_) hm he hdf hsz hti hob Q hQ
 ·by_cases hst:lp.ti=s
  ·subst hst;simp only[xTE,zZA,Option.some.injEq] at hs;exact .inl ⟨rfl,hs.symm⟩
  ·simp only[xTE] at hs;rw[yMA hst] at hs;exact .inr ⟨Ne.symm hst,hs⟩
 ·obtain⟨nn,h1,h2⟩:=hok;have h3:e.eval X J = .int nn:=by rw[<- xFA (show Z.take B.lvl=J.take B.lvl by rw[hξ,hδt]) hesh,h1]
  have hb:=yPC h2;have hmx:(0:Int)<=lp.kd.max:=by
   obtain⟨_,_,_,_,_,_,_,_,_,_,_,_,_,nkd⟩:=yFG hlp;rcases nkd with h|h <;> rw[h] <;> decide
  refine⟨nn,by simp only[SV.den,h1,D.asInt],by simp[DE.eval,zDA,Fn.eval,D.rows,h3,D.asInt],?_⟩;simp only[DE.eval,zDA,Fn.eval,D.rows,h3,D.asInt,List.length_map,List.length_range];omega
 ·exact⟨gk,hmk.same rfl rfl rfl rfl,fun _ _ _=>rfl,fun n vi hn=>⟨hBv n vi hn,rfl,rfl⟩,fun o cs hc=>⟨hBo o cs hc,rfl⟩⟩
theorem qRC{st:St}{rs:List Nat}:∀ {l:List (Nat×SV)} {s:Nat} {v:SV},lk s (yKC st rs l)=some v->lk s l=some v
 | [],_,_,h=>by simp[yKC,xDA,yLA] at h
 | (m,x)::r,s,v,h=>by
  unfold yKC at h;by_cases hc:(isOwnX st x && !rs.elem m&&st.env.any (fun p=>p.2.beq x&&rs.elem p.1))=true
  ·rw[if_pos hc] at h;obtain⟨hne,h2⟩:=qYA h;rw[zIA hne];exact qRC h2
  ·rw[if_neg hc] at h;by_cases hm:m=s
   ·subst hm;rw[zKA] at h ⊢;exact h
   ·rw[zIA hm] at h ⊢;exact qRC h
theorem zQF{α:Type}:∀ {ss:List Nat} {l:List (Nat×α)} {s:Nat} {v:α},lk s (qVA ss l)=some v->lk s l=some v
 | [],_,_,_,h=>h
 | x::r,l,s,v,h=>zQF (ss:=r) (qYA h).2
theorem zBL{ex:ExecF}{B h0:St}{cars:List (Pl×Cr)}{src:SV}{d:DE}{t e:TypeId}{lp:LoopP}{fin:List Out}(hV:zAL P ex B h0 cars src d t e lp=some fin):(∀o∈fin,∀x∈B.obl,x∈o.st.obl) /\ ∀J,∃o∈fin,PcOk X J o.pc:=by
 obtain⟨inf,h,outs,hsv,hinf,hu8,hdsh,hscl,hho,hkd,hent,houts,hend⟩:=yVH hV;exact⟨yNF hend,zLE hend⟩
theorem zCK{ex:ExecF}{B h0:St}{cars:List (Pl×Cr)}{e:DE}{lp:LoopP}{fin:List Out}(hV:yTH P ex B h0 cars e lp=some fin):(∀o∈fin,∀x∈B.obl,x∈o.st.obl) /\ ∀J,∃o∈fin,PcOk X J o.pc:=by
 unfold yTH at hV;split at hV
 ·split at hV
  ·exact⟨yNF hV,zLE hV⟩
  ·cases hV
 ·cases hV
theorem loopOk:LoopOk P X Pre:=by
 intro ex hex lp i b hlp st outs hn hs;unfold loopS at hs;split at hs
 ·rename_i d hti htn;split at hs
  ·rename_i src hsrc;split at hs
   ·rename_i t ht;split at hs
    ·rename_i e hu;split at hs
     ·rename_i cars h0 hh;generalize hB:({ Dx.settle st src with env:=yKC st (zTC lp.body) (qVA (lp.ti::lp.sl) (Dx.settle st src).env) }:St)=B at hs;have k:=zBB st src;obtain⟨o1,o2⟩:=zBL (X:=X) hs;refine⟨fun o ho x hx=>o1 o ho x (by rw[<- hB];simp only;rw[k.2.2.1];exact hx),o2,fun w0 J g w a hm he hob Q hQ=>?_⟩;have hm':Mem P X w0 J B g w:=by rw[<- hB];exact(Mem.settle src hm).1.same rfl rfl rfl rfl
      have hBe:∀s sv,lk s B.env=some sv->lk s st.env=some sv:=fun s sv hs'=>by
       rw[<- hB] at hs';simp only at hs';rw[k.1] at hs';exact zQF (qRC hs')
      have hBv:∀n vi,lk n st.vars=some vi -> ∃vj,lk n B.vars=some vj:=fun n vi hn=>by rw[<- hB];exact k.2.2.2.2.2.2 n vi hn
      have hBo:∀o cs,lk o st.objs=some cs->lk o B.objs=some cs:=fun o cs ho=>by rw[<- hB];simp only;rw[k.2.1];exact ho
      have hti':a.tmps[lp.ti]? = some (.int .i64 0):=(he.tm _ _ hti).1;refine yTI hex hlp hu hs hm' (fun s sv hs'=>he.tm s sv (hBe s sv hs')) he.df (by rw[he.sz,<- hB];exact k.2.2.2.2.1.symm) hti' hob Q (fun o ho hpc g' w' a' h1 h3 h4=>?_);refine hQ o ho hpc g' w' a' ⟨fun n vi hn=>?_,fun o cs ho=>?_⟩ h3 h4
      ·obtain⟨vj,hj⟩:=hBv n vi hn;exact h1.rv n vj hj
      ·exact h1.rb o cs (hBo o cs ho)
     ·cases hs
    ·cases hs
   ·cases hs
  ·cases hs
 ·rename_i ka kb e ha hb hcx;split at hs
  rotate_left
  ·cases hs
  rename_i hkk;split at hs
  ·rename_i cars h0 hh;generalize hB:({ st with env:=yKC st (zTC lp.body) (qVA (lp.ti::lp.sl) st.env) }:St)=B at hs;obtain⟨o1,o2⟩:=zCK (X:=X) hs;refine⟨fun o ho x hx=>o1 o ho x (by rw[<- hB];exact hx),o2,fun w0 J g w a hm he hob Q hQ=>?_⟩;have hm':Mem P X w0 J B g w:=by rw[<- hB];exact hm.same rfl rfl rfl rfl
   have hBe:∀s sv,lk s B.env=some sv->lk s st.env=some sv:=fun s sv hs'=>by
    rw[<- hB] at hs';exact zQF (qRC hs')
   have hti':a.tmps[lp.ti]? = some (.int lp.kd 0):=by
    rw[<- hkk.1]
    first
     | exact(he.tm _ _ ha).1
     | exact(he.tm _ _ hb).1
     | exact(he.tm _ _ hcx).1
     | exact(he.tm _ _ e).1
   refine yUH hex hlp hs hm' (fun s sv hs'=>he.tm s sv (hBe s sv hs')) he.df (by rw[he.sz,<- hB]) hti' hob Q (fun o ho hpc g' w' a' h1 h3 h4=>?_);exact hQ o ho hpc g' w' a' ⟨fun n vi hn=>h1.rv n vi (by rw[<- hB];exact hn),fun o cs ho=>h1.rb o cs (by rw[<- hB];exact ho)⟩ h3 h4
  ·cases hs
 ·cases hs
end
end Go.Dx
namespace Go.Dx
open Go
section
variable {P:Program} {X:Nat->List D->D} {Pre:Nat->List D->Prop} {w0:Base} {J δ':List D} {st:St} {g g':Gh} {w:World} {a:Act}
theorem qBE(lv:Nat):∀(n j:Nat),j<n->(zUC lv n)[j]? = some (.v (lv+2+j))
 | 0,j,h=>by omega
 | n+1,j,h=>by
  have hl:∀n,(zUC lv n).length=n:=fun n=>by
   induction n with
   | zero=>rfl
   | succ n ih=>simp[zUC,ih]
  simp only[zUC];by_cases hj:j<n
  ·rw[List.getElem?_append_left (by rw[hl];exact hj)];exact qBE lv n j hj
  ·have:j=n:=by omega
   subst this;rw[List.getElem?_append_right (by rw[hl];omega),hl]
   simp
theorem qCE(lv:Nat):∀n,(zUC lv n).length=n
 | 0=>rfl
 | n+1=>by simp[zUC,qCE lv n]
theorem qDE{i:Nat}:∀ {outs:List Out},Dx.whileOk i outs=true -> ∀o∈outs,o.ex ≠ .norm->o.ex = .exit i
 | [],_,o,ho,_=>by cases ho
 | p::r,h,o,ho,hn=>by
  simp only[Dx.whileOk,baZ,Bool.or_eq_true,dtZ] at h;rcases List.mem_cons.1 ho with rfl|ho
  ·rcases h.1 with h1|h1
   ·exact absurd (qQA.1 h1) hn
   ·exact h1
  ·exact qDE h.2 o ho hn
theorem yWE(n k:Nat)(h:k<=n):(yWB n).take k=yWB k:=by
 unfold yWB;rw[<- List.map_take,List.take_range,Nat.min_eq_left h]
theorem zBD(n:Nat):(yWB n).length=n:=by simp[yWB]
theorem yFF(n k:Nat)(h:k<n):(yWB n).getD k .nil = .int (k:Nat):=by
 simp[yWB,List.getD_eq_getElem?_getD,List.getElem?_range h]
theorem zZG(n:Nat):yWB (n+1)=yWB n++[.int (n:Nat)]:=by simp[yWB,List.range_succ]
theorem yNK:yTK P X Pre:=by
 intro ex hex i b st st' hs;unfold loopW at hs;generalize hB:({ st with env:=yKC st (zTC b) st.env }:St)=B at hs;unfold loopWB at hs;simp only at hs;split at hs
 ·cases hs
 rename_i outs0 _;split at hs
 ·cases hs
 rename_i s1 _;split at hs
 ·cases hs
 rename_i cars h0 _;split at hs
 ·cases hs
 rename_i outs houts;split at hs
 rotate_left
 ·cases hs
 rename_i hc;simp only[baZ,beq_iff_eq,List.isEmpty_iff] at hc;obtain⟨⟨⟨⟨⟨⟨hwo,hobe⟩,hnd⟩,hco⟩,hl0⟩,hkv⟩,hko⟩:=hc;split at hs
 rotate_left
 ·cases hs
 rename_i s2 s3 go hg2 hg3 htree;split at hs
 rotate_left
 ·cases hs
 rename_i inits bodies ends hfit0 hfit2 hfit3;split at hs
 rotate_left
 ·cases hs
 rename_i hends;have hends':=qJA hends;cases hs;have hBe:∀s sv,lk s B.env=some sv->lk s st.env=some sv:=fun s sv hs'=>by rw[<- hB] at hs';exact qRC hs'
 have hBv:B.vars=st.vars:=by rw[<- hB]
 have hBo:B.objs=st.objs:=by rw[<- hB]
 have hBob:B.obl=st.obl:=by rw[<- hB]
 refine⟨fun x hx=>by rw[hBob];exact List.mem_cons_of_mem _ (List.mem_cons_of_mem _ hx),fun w0 J g w a hm0 he0 hob Q hQ=>?_⟩;have hm:Mem P X w0 J B g w:=by rw[<- hB];exact hm0.same rfl rfl rfl rfl
 have he:∀s sv,lk s B.env=some sv->a.tmps[s]? = some (sv.den X J g)/\sv.ok X J:=fun s sv hs'=>he0.tm s sv (hBe s sv hs')
 have hsz:a.tmps.size=B.nt:=by rw[he0.sz,<- hB]
 have hlv:=hm.lv;have hδt:J.take B.lvl=J:=List.take_of_length_le (by omega)
 let step:Nat->D->List D->List D:=fun i r acc=>zDA X bodies (J++(.int i::r::acc))
 let acc:Nat->List D:=fun k=>yIA step 0 (yWB k) (zDA X inits J)
 let dk:Nat->D->List D:=fun k y=>J++(.int k::y::acc k)
 obtain⟨hterm,hall,hobB⟩:=hob;simp only[Ob.holds] at hterm hall;rw[hδt] at hterm;obtain⟨hN1,hN2⟩:=yLF (p:=fun n=>(go.eval X (J++(.int n :: .int n::acc n))).asBool=false) hterm;have hwh:(DE.wh B.lvl go inits bodies).eval X J = .int (yKF (fun n=>(go.eval X (J++(.int n :: .int n::acc n))).asBool=false):Nat):=by
  simp only[DE.eval];rw[hδt]
 generalize hNN:yKF (fun n=>(go.eval X (J++(.int n :: .int n::acc n))).asBool=false)=N at hN1 hN2 hwh;have hgo:∀k,k<N->(go.eval X (dk k (.int k))).asBool=true:=fun k hk=>by
  have:=hN2 k hk
  cases hb:(go.eval X (dk k (.int k))).asBool with
  | true=>rfl
  | false=>exact absurd hb this
 have hrowsN:((DE.f .iota [.wh B.lvl go inits bodies]).eval X J).rows=yWB N:=by
  show (Fn.eval X .iota (zDA X [.wh B.lvl go inits bodies] J)).rows=_;rw[qVC,hwh];simp[Fn.eval,D.rows,D.asInt,yWB]
 have hrowsS:((DE.f .iotaS [.wh B.lvl go inits bodies]).eval X J).rows=yWB (N+1):=by
  show (Fn.eval X .iotaS (zDA X [.wh B.lvl go inits bodies] J)).rows=_;rw[qVC,hwh];simp[Fn.eval,D.rows,D.asInt,yWB]
 have hobk:∀k,k<=N->zCA X Pre (zWB go s2.obl s3.obl) (dk k (.int k)):=fun k hk=>by
  rw[hrowsS] at hall
  have:=hall k (by rw[zBD];omega)
  rw[yFF _ _ (by omega),yWE _ _ (by omega)] at this;exact this
 have hgs:=fun(Z:List D) (o:Out) (ho:o∈outs) (hpc:PcOk X Z o.pc) (hn:o.ex = .norm) (g0:Gh)=>zIB (P:=P) (X:=X) (Pre:=Pre) (w0:=w0) (g0:=g0) hg2 (o.pc,o.st) (qAD ho hn) hpc
 have hgs3:=fun(Z:List D) (o:Out) (ho:o∈outs) (hpc:PcOk X Z o.pc) (hn:o.ex ≠ .norm) (g0:Gh)=>zIB (P:=P) (X:=X) (Pre:=Pre) (w0:=w0) (g0:=g0) hg3 (o.pc,o.st) (qGF ho hn) hpc
 have htree':=fun(Z:List D) (o:Out) (ho:o∈outs) (hpc:PcOk X Z o.pc)=>xWC (X:=X) (J:=Z) htree (o.pc,xYB o.ex) (List.mem_map.2 ⟨o,ho,rfl⟩) hpc
 let Inv:Nat->Act->World->Prop:=fun k a w=>k<=N/\a.defers=[]/\a.tmps.size=h0.nt /\
  ∃gk:Gh,(∀y,Mem P X w0 (dk k y) h0 gk w /\ ∀s v,lk s h0.env=some v->a.tmps[s]? = some (v.den X (dk k y) gk)/\v.ok X (dk k y))/\Kept B g gk
 have hbase:Inv 0 a w:=by
  refine⟨Nat.zero_le _,he0.df,by rw[hsz];exact zXF hfit0,g.carry X J B cars,fun y=>?_,⟨fun n vi hn=>?_,fun o cs _=>rfl⟩⟩
  ·obtain⟨k1,k2,k3,_⟩:=qJB hm (by omega) hfit0 hnd hco [] (by simpa using hl0) he (.int (0:Nat)) y;rw[hδt,List.append_nil] at k1 k2;exact⟨k1,k2⟩
  ·have:=(yJA hkv hn).2
   simp[Gh.carry,zFB this]
 have hkeptX:∀(gk:Gh) (s':St) (g2:Gh),Kept B g gk->Ext h0 gk s' g2->Kept B g g2:=fun gk s' g2 hk q1=>⟨fun n vi hn=>by
   obtain⟨⟨vj,hj⟩,_⟩:=yJA hkv hn;obtain⟨_,e3,e4⟩:=q1.rv n vj hj;obtain⟨k1,k2⟩:=hk.rv n vi hn;exact⟨by rw[e3,k1],by rw[e4,k2]⟩,fun o cs hc=>by
   obtain⟨⟨cj,hj⟩,_⟩:=yJA hko hc;obtain⟨_,e2⟩:=q1.rb o cj hj;rw[e2];exact hk.rb o cs hc⟩
 have hacc1:∀k,acc (k+1)=zDA X bodies (dk k (.int k)):=fun k=>by
  show yIA step 0 (yWB (k+1)) _=_;rw[zZG,zHB,zBD,Nat.zero_add]
 have hfold:∀j,(DE.fold B.lvl (.f .iota [.wh B.lvl go inits bodies]) inits bodies j).eval X J=(acc N).getD j .nil:=fun j=>by
  show (yIA (fun i r acc=>zDA X bodies (J.take B.lvl++(.int i::r::acc))) 0 ((DE.f .iota [.wh B.lvl go inits bodies]).eval X J).rows (zDA X inits J)).getD j .nil=_;rw[hδt,hrowsN]
 refine wp_block (wp_loop_rounds (N+1) ?_);have key:∀j k a w,k+j=N+1->Inv k a w->Code.rounds P b (Exit.inBlock i Q) j a w:=by
  intro j
  induction j with
  | zero=>intro k a w hk hI;have:=hI.1;omega
  | succ j ih =>
   intro k a w hk hI;obtain⟨hkN,hkdf,hksz,gk,hgk,hkept⟩:=hI;rw[rounds_succ];obtain⟨hmk,hek⟩:=hgk (.int k);have hEk:Env X (dk k (.int k)) h0 gk a:=⟨hek,hkdf,hksz⟩;have hmo:=qIA (hobk k hkN);refine zWA (hex.sound w0 (dk k (.int k)) [b] h0 _ gk w a hmk hEk houts (fun o ho hpc=>?_) _ (fun o ho hpc g1 w2 c2 q1' q2' q3'=>?_))
   ·have ht:=htree' _ o ho hpc;by_cases hn:o.ex = .norm
    ·exact(hgs _ o ho hpc hn g).1 (hmo.1 (by rw[ht];exact qQA.2 hn))
    ·exact(hgs3 _ o ho hpc hn g).1 (hmo.2 (by
      rw[ht];cases hx:xYB o.ex with
      | true=>exact absurd (qQA.1 hx) hn
      | false=>rfl))
   ·have ht:=htree' _ o ho hpc;by_cases hn:o.ex = .norm
    ·skip
     rw[hn];obtain⟨g2,q2,q3,q1⟩:=(hgs _ o ho hpc hn gk).2 g1 w2 c2 q2' q3' q1';show Code.rounds P b (Exit.inBlock i Q) j c2 w2;have hkN':k<N:=by
      rcases Nat.lt_or_ge k N with h1|h1
      ·exact h1
      ·have:k=N:=by omega
       subst this;have h2:(go.eval X (dk k (.int k))).asBool=true:=by rw[ht];exact qQA.2 hn
       have h3:(go.eval X (dk k (.int k))).asBool=false:=hN1;rw[h2] at h3;cases h3
     refine ih (k+1) c2 w2 (by omega) ⟨hkN',q3.df,by rw[q3.sz];exact zXF hfit2,g2.carry X (dk k (.int k)) s2 cars,fun y=>?_,⟨fun n vi hn=>?_,fun o cs hc=>?_⟩⟩
     ·have hle:B.lvl<=(dk k (.int k)).length:=by show _<=(J++_).length;rw[List.length_append];omega
      obtain⟨k1,k2,k3,_⟩:=qJB q2 hle hfit2 hnd hco [] (by simpa using hl0) (a:=c2) q3.tm (.int ((k+1:Nat):Int)) y;have e1:(dk k (.int k)).take B.lvl=J:=by
       show (J++_).take _=_;rw[List.take_append_of_le_length (by omega),hδt]
      rw[e1,List.append_nil,<- hacc1] at k1 k2;exact⟨k1,k2⟩
     ·have hnm:=(yJA hkv hn).2;simp only[Gh.carry,zFB hnm];exact(hkeptX gk s2 g2 hkept q1).rv n vi hn
     ·exact(hkeptX gk s2 g2 hkept q1).rb o cs hc
    ·skip
     have hxi:=qDE hwo o ho hn;obtain⟨g2,q2,q3,q1⟩:=(hgs3 _ o ho hpc hn gk).2 g1 w2 c2 q2' q3' q1';have hkN':k=N:=by
      rcases Nat.lt_or_ge k N with h1|h1
      ·have h2:=hgo k h1;rw[ht] at h2;exact absurd (qQA.1 h2) hn
      ·omega
     subst hkN';rw[hxi];show Exit.inBlock i Q (.exit i) c2 w2;simp only[Exit.inBlock,if_true];have hle:B.lvl<=(dk k (.int k)).length:=by show _<=(J++_).length;rw[List.length_append];omega
     obtain⟨k1,k2,k3,hel⟩:=qJB q2 hle hfit3 hnd hco [] (by simpa using hl0) (a:=c2) q3.tm (.int (k:Nat)) (.int k);have e1:(dk k (.int k)).take B.lvl=J:=by
      show (J++_).take _=_;rw[List.take_append_of_le_length (by omega),hδt]
     have hac:(acc k).length=cars.length:=by
      have:=hmk.lv
      rw[hl0] at this;simp only[dk,List.length_append,List.length_cons] at this;omega
     have e2:zDA X ends (dk k (.int k))=acc k:=by
      rw[hends'];apply List.ext_getElem?;intro q;by_cases hq:q<cars.length
      ·rw[yQE (e:=.v (B.lvl+2+q)) (qBE B.lvl cars.length q hq)]
       have:=zHE (J:=J) (lv:=B.lvl) (by omega) (.int k) (.int k) (acc k) q
       rw[hδt] at this;simp only[DE.eval,dk];rw[this,List.getD_eq_getElem?_getD,List.getElem?_eq_getElem (by omega)];rfl
      ·rw[List.getElem?_eq_none (by rw[yUA,qCE];omega),List.getElem?_eq_none (by omega)]
     rw[e1,e2,List.append_nil] at k1 k2;have hpost:=xFE (lv:=B.lvl) (cars:=cars) (B:=B) (T:={ env:=xWB B.lvl (.f .iota [.wh B.lvl go inits bodies]) inits bodies cars h0.env,vars:=xRA B.lvl (.f .iota [.wh B.lvl go inits bodies]) inits bodies cars 0 h0.vars,objs:=yRB B.lvl (.f .iota [.wh B.lvl go inits bodies]) inits bodies cars h0.objs,loops:=h0.loops,obl:=Ob.term B.lvl go inits bodies :: .all (.f .iotaS [.wh B.lvl go inits bodies]) inits bodies (zWB go s2.obl s3.obl)::B.obl,lvl:=B.lvl,nx:=max s2.nx s3.nx,nt:=h0.nt })
      (d:=.f .iota [.wh B.lvl go inits bodies]) (inits:=inits) (bodies:=bodies) k1 (a:=c2) k2 hlv hfit0 hnd hco (fun j=>hfold j) rfl
     refine hQ _ w2 c2 ⟨fun n vi hn=>?_,fun o cs hc=>?_⟩ hpost.1 ⟨hpost.2,q3.df,(show c2.tmps.size=h0.nt from q3.sz.trans (zXF hfit3))⟩
     ·rw[<- hBv] at hn;obtain⟨⟨vj,hj⟩,hnm⟩:=yJA hkv hn;refine⟨zJB hj,?_⟩;simp only[Gh.carry,zFB hnm];exact(hkeptX gk s3 g2 hkept q1).rv n vi hn
     ·rw[<- hBo] at hc;obtain⟨⟨cj,hj⟩,_⟩:=yJA hko hc;exact⟨⟨_,by simp only;rw[qVB,hj];rfl⟩,(hkeptX gk s3 g2 hkept q1).rb o cs hc⟩
 exact key (N+1) 0 a w (by omega) hbase
theorem ySE{C:Cfg}(hnm:xJA C.P)(hord:C.P.follows .mixedOrders=true)(hctr:∀f c,C.ctr f=some c->qRA C.P X Pre f c)(n dp:Nat):ExOk C.P X Pre (exec C n dp) :=
 qDK hnm hord hctr loopOk yNK n dp
end
end Go.Dx
namespace Go.Dx
open Go
structure Sa where
 as:List SV
 vs:List (Nat×VI)
 os:List (Nat×List SV)
def srcE(m:Bool)(i:Nat):DE:=if m then .f (.get 1) [.v i] else .v i
def yNA(P:Program):Nat->List AK->Option Sa
 | _,[]=>some ⟨[],[],[]⟩
 | i,.val t::r =>
  match yNA P (i+1) r,P.underlying t with
  | some q,some d=>if qSB d then some ⟨zWD P i t (.v i)::q.as,q.vs,q.os⟩ else some ⟨.x i::q.as,(i,⟨.set t,.v i⟩)::q.vs,q.os⟩
  | _,_=>none
 | i,.own t::r =>
  match yNA P (i+1) r with
  | some q=>some ⟨.x i::q.as,(i,⟨.own t,.v i⟩)::q.vs,q.os⟩
  | none=>none
 | i,.rd t m::r =>
  match yNA P (i+1) r with
  | some q=>some ⟨.oa i 0::q.as,(i,⟨.set t,srcE m i⟩)::q.vs,(i,[.x i,.b (badE m (.v i))])::q.os⟩
  | none=>none
 | _,_::_=>none
def ySC(n:Nat)(q:Sa)(nt:Nat):St:={ env:=qJC 0 q.as,vars:=q.vs,objs:=q.os,loops:=[],obl:=[],lvl:=n,nx:=n,nt:=nt }
def owns:List AK->Nat
 | []=>0
 | .own _::r=>owns r+1
 | .rd _ _::r=>owns r+1
 | _::r=>owns r
def rdAt:Nat->List AK->Option (Nat×TypeId×Bool)
 | _,[]=>none
 | i,.rd t m::_=>some (i,t,m)
 | i,_::r=>rdAt (i+1) r
def ptrK(P:Program)(s:St)(t:TypeId)(cs:List SV):Option DE :=
 match P.underlying t with
 | some (.pointer e) =>
  match xBD P s e cs with
  | some v=>(svT P s e v).map fun d=>mkf .mkptr [d]
  | none=>none
 | _=>none
def retV(P:Program)(s:St)(t:TypeId)(r:SV):Option DE :=
 match svT P (settle s r) t r with
 | some d=>some d
 | none =>
  match r with
  | .oa o 0 =>
   match lk o s.objs with
   | some cs=>ptrK P (settles s cs) t cs
   | none=>none
  | _=>none
def retO(P:Program)(s:St)(t:TypeId):SV->Option DE
 | .x n =>
  match lk n s.vars with
  | some ⟨.own u,d⟩=>if u=t then some d else none
  | _=>none
 | .c .nils=>if zBC P t then some (.k .nil) else none
 | _=>none
def notO(i:Nat):SV->Bool
 | .oa o _=>!(o==i)
 | _=>true
def retR(P:Program)(s:St)(as:List AK)(t:TypeId)(m:Bool)(r:SV):Option DE :=
 match rdAt 0 as with
 | some (i,tb,m') =>
  if m=m' then
  match retV P s t r,lk i s.objs with
  | some d,some [x,.b e] =>
   if notO i r then
    match svT P (settle s r) tb x with
    | some d'=>some (.f .mkrow [d,d',e])
    | none=>none
   else none
  | _,_=>none
  else none
 | none=>none
def retD(P:Program)(s:St)(as:List AK)(k:RK):List SV->Option DE
 | [] =>
  match k with
  | .unit=>some (.k .nil)
  | _=>none
 | [r] =>
  match k with
  | .val t=>retV P s t r
  | .own t=>retO P s t r
  | .rd t m=>retR P s as t m r
  | _=>none
 | [r,.b (.k (.bool true))] =>
  match k with
  | .valT t=>retV P s t r
  | .ownT t=>retO P s t r
  | _=>none
 | _=>none
def qVH:Nat->List (List (DE×Bool)×DE)->Option DE
 | _,[(_,d)]=>some d
 | n+1,((e,b)::pc,x)::r =>
  match qKD e (((e,b)::pc,x)::r) with
  | some (t,[])=>qVH n t
  | some ([],f)=>qVH n f
  | some (t,f) =>
   match qVH n t,qVH n f with
   | some a,some b=>some (if a.beq b then a else .f .ite [e,a,b])
   | _,_=>none
  | none=>none
 | _,_=>none
def qWH:Nat->List (List (DE×Bool)×List Ob)->Option (List Ob)
 | _,[(_,d)]=>some d
 | n+1,((e,b)::pc,x)::r =>
  match qKD e (((e,b)::pc,x)::r) with
  | some (t,[])=>qWH n t
  | some ([],f)=>qWH n f
  | some (t,f) =>
   match qWH n t,qWH n f with
   | some a,some b=>some (zWB e a b)
   | _,_=>none
  | none=>none
 | _,_=>none
def outD(P:Program)(as:List AK)(k:RK)(rs:List ResultVar)(o:Out):Option (List (DE×Bool)×DE) :=
 match xOI P o.st rs with
 | some l=>(retD P o.st as k l).map fun d=>(o.pc,d)
 | _=>none
def zWL(P:Program)(as:List AK)(k:RK)(rs:List ResultVar):List Out->Option (List (List (DE×Bool)×DE))
 | []=>some []
 | o::r =>
  match outD P as k rs o,zWL P as k rs r with
  | some d,some ds=>some (d::ds)
  | _,_=>none
def yNG(P:Program)(c:Ctr):Bool :=
 match c.res with
 | .val _=>owns c.args==0
 | .own t=>owns c.args==0 || (owns c.args==1&&(rdAt 0 c.args).isNone&&(match P.underlying t with|some (.slice e)=>isU8 P e|_=>false))
 | .valT _=>owns c.args==0
 | .ownT _=>owns c.args==0
 | .rd _ _=>owns c.args==1
 | .unit=>owns c.args==0
 | _=>false
def runF(C:Cfg)(n dp:Nat)(c:Ctr)(fn:Func):Option (DE×List Ob) :=
 match fn.body,yNA C.P 0 c.args with
 | some body,some q =>
  if yNG C.P c&&decide (c.args.length<=fn.ntmps) then
   match exec C n dp [body] (ySC c.args.length q fn.ntmps) with
   | some outs =>
    if zGF outs then
     match zWL C.P c.args c.res fn.results.toList outs with
     | some ds =>
      match qVH 40 ds,qWH 40 (outs.map fun o=>(o.pc,o.st.obl)) with
      | some d,some os=>some (d,os)
      | _,_=>none
     | none=>none
    else none
   | none=>none
  else none
 | _,_=>none
def qBD(ks:List (Nat×Int)):Nat->List SV->List SV
 | _,[]=>[]
 | i,v::r=>(match v with
   | .i t (.v j)=>match lk j ks with
    | some k=>.i t (.k (.int k))
    | none=>.i t (.v j)
   | v=>v)::qBD ks (i+1) r
def runFK(C:Cfg)(n dp:Nat)(c:Ctr)(fn:Func)(ks:List (Nat×Int)):Option (DE×List Ob) :=
 match fn.body,yNA C.P 0 c.args with
 | some body,some q =>
  if yNG C.P c&&decide (c.args.length<=fn.ntmps) then
   match exec C n dp [body] (ySC c.args.length { q with as:=qBD ks 0 q.as } fn.ntmps) with
   | some outs =>
    if zGF outs then
     match zWL C.P c.args c.res fn.results.toList outs with
     | some ds =>
      match qVH 40 ds,qWH 40 (outs.map fun o=>(o.pc,o.st.obl)) with
      | some d,some os=>some (d,os)
      | _,_=>none
     | none=>none
    else none
   | none=>none
  else none
 | _,_=>none
end Go.Dx
namespace Go.Dx
open Go
section
variable {P:Program} {X:Nat->List D->D} {Pre:Nat->List D->Prop} {J:List D}
theorem xEB:∀ {n:Nat} {l:List (List (DE×Bool)×DE)} {c:DE},qVH n l=some c -> ∀p∈l,PcOk X J p.1->c.eval X J=p.2.eval X J
 | n,l,c,h,p,hp,hpc=>by
  unfold qVH at h;split at h
  ·cases h;simp only[List.mem_singleton] at hp;subst hp;rfl
  ·rename_i n e b pc x r _;split at h
   ·rename_i t hs;obtain⟨b',pc',k1,k2,k3⟩:=xGA hs p hp hpc;cases b' with
    | true=>exact xEB h (pc',p.2) k3 k2
    | false=>simp at k3
   ·rename_i f hs;obtain⟨b',pc',k1,k2,k3⟩:=xGA hs p hp hpc;cases b' with
    | true=>simp at k3
    | false=>exact xEB h (pc',p.2) k3 k2
   ·rename_i t f _ _ hs;obtain⟨b',pc',k1,k2,k3⟩:=xGA hs p hp hpc;split at h
    ·rename_i a1 b1 h1 h2;cases h;have main:(DE.f .ite [e,a1,b1]).eval X J=if (e.eval X J).asBool then a1.eval X J else b1.eval X J:=rfl
     cases b' with
     | true =>
      have i1:=xEB h1 (pc',p.2) k3 k2;split
      ·exact i1
      ·rw[main,k1];simp only[if_true];exact i1
     | false =>
      have i1:=xEB h2 (pc',p.2) k3 k2;split
      ·rename_i hb;rw[DE.beq_eq hb];exact i1
      ·rw[main,k1];simp only[bfZ,if_false];exact i1
    ·cases h
   ·cases h
  ·cases h
theorem xFB:∀ {n:Nat} {l:List (List (DE×Bool)×List Ob)} {c:List Ob},qWH n l=some c->zCA X Pre c J -> ∀p∈l,PcOk X J p.1->zCA X Pre p.2 J
 | n,l,c,h,hob,p,hp,hpc=>by
  unfold qWH at h;split at h
  ·cases h;simp only[List.mem_singleton] at hp;subst hp;exact hob
  ·rename_i n e b pc x r _;split at h
   ·rename_i t hs;obtain⟨b',pc',k1,k2,k3⟩:=xGA hs p hp hpc;cases b' with
    | true=>exact xFB h hob (pc',p.2) k3 k2
    | false=>simp at k3
   ·rename_i f hs;obtain⟨b',pc',k1,k2,k3⟩:=xGA hs p hp hpc;cases b' with
    | true=>simp at k3
    | false=>exact xFB h hob (pc',p.2) k3 k2
   ·rename_i t f _ _ hs;obtain⟨b',pc',k1,k2,k3⟩:=xGA hs p hp hpc;split at h
    ·rename_i a1 b1 h1 h2;cases h;have hm:=qIA hob;cases b' with
     | true=>exact xFB h1 (hm.1 k1) (pc',p.2) k3 k2
     | false=>exact xFB h2 (hm.2 k1) (pc',p.2) k3 k2
    ·cases h
   ·cases h
  ·cases h
def yGF:AK->Bool
 | .own _=>true
 | .rd _ _=>true
 | _=>false
theorem zRE:∀ {ks:List AK} {i:Nat} {k:AK},owns ks=0->ks[i]? = some k->yGF k=false
 | [],i,t,_,h=>by simp at h
 | x::r,0,k,h,hi=>by
  simp at hi;subst hi
  cases x <;> simp[owns] at h <;> rfl
 | x::r,i+1,k,h,hi=>zRE (ks:=r) (by cases x <;> simp[owns] at h <;> exact h) (by simpa using hi)
theorem yMD:∀ {ks:List AK} {i j:Nat} {k l:AK},owns ks<=1->ks[i]? = some k->ks[j]? = some l->yGF k=true->yGF l=true->i=j
 | [],i,j,_,_,_,h,_,_,_=>by simp at h
 | x::r,0,0,_,_,_,_,_,_,_=>rfl
 | x::r,0,j+1,k,l,h,hi,hj,h1,h2=>by
  simp at hi;subst hi
  have h0:owns r=0:=by cases x <;> simp[yGF] at h1 <;> simp[owns] at h <;> exact h
  have:=zRE h0 (show r[j]? = some l by simpa using hj)
  rw[this] at h2;cases h2
 | x::r,i+1,0,k,l,h,hi,hj,h1,h2=>by
  simp at hj;subst hj
  have h0:owns r=0:=by cases x <;> simp[yGF] at h2 <;> simp[owns] at h <;> exact h
  have:=zRE h0 (show r[i]? = some k by simpa using hi)
  rw[this] at h1;cases h1
 | x::r,i+1,j+1,k,l,h,hi,hj,h1,h2=>by
  have:=yMD (ks:=r) (i:=i) (j:=j) (k:=k) (l:=l) (by cases x <;> simp[owns] at h <;> omega) (by simpa using hi) (by simpa using hj) h1 h2
  omega
theorem yHL:∀ {ks:List AK} {i j:Nat} {t:TypeId} {m:Bool},rdAt i ks=some (j,t,m)->i<=j/\ks[j-i]? = some (.rd t m)
 | [],i,j,t,m,h=>by simp[rdAt] at h
 | x::r,i,j,t,m,h=>by
  have rest:rdAt (i+1) r=some (j,t,m)->i<=j/\(x::r)[j-i]? = some (.rd t m):=fun h=>by
   obtain⟨h1,h2⟩:=yHL h;refine⟨by omega,?_⟩;rw[show j-i=(j-(i+1))+1 by omega];simpa using h2
  cases x with
  | rd u m'=>simp[rdAt] at h;obtain⟨rfl,rfl,rfl⟩:=h;exact⟨Nat.le_refl _,by simp⟩
  | val u=>exact rest h
  | own u=>exact rest h
  | mcell u m'=>exact rest h
  | wcell u m'=>exact rest h
  | ccell gs o u=>exact rest h
theorem zTD:∀ {ks:List AK} {i:Nat} {q:Sa},yNA P i ks=some q->q.as.length=ks.length /\
  (∀n vi,lk n q.vs=some vi->i<=n /\ ∃k t,ks[n-i]? = some k/\((k = .val t/\vi=⟨.set t,.v n⟩)∨(k = .own t/\vi=⟨.own t,.v n⟩)∨(∃m,k = .rd t m/\vi=⟨.set t,srcE m n⟩))) /\
  (∀o cs,lk o q.os=some cs->i<=o /\ ∃t m,ks[o-i]? = some (.rd t m)/\cs=[.x o,.b (badE m (.v o))]) /\
  (∀(j:Nat) (t m:TypeId),ks[j]? ≠ some (AK.mcell t m)/\ks[j]? ≠ some (AK.wcell t m) /\ ∀gs:List Nat,ks[j]? ≠ some (AK.ccell gs m t))/\(∀(j:Nat) (t:TypeId) (m:Bool),ks[j]? = some (AK.rd t m)->lk (i+j) q.os=some [.x (i+j),.b (badE m (.v (i+j)))])
 | [],i,q,h=>by
  simp only[yNA,Option.some.injEq] at h;subst h
  exact⟨rfl,by simp[xDA,yLA],by simp[xDA,yLA],by simp,by simp⟩
 | x::r,i,q,h=>by
  have up:∀ {q':Sa},yNA P (i+1) r=some q'->q'.as.length=r.length /\
    (∀n vi,lk n q'.vs=some vi->i<=n/\i≠n /\ ∃k t,(x::r)[n-i]? = some k/\((k = .val t/\vi=⟨.set t,.v n⟩)∨(k = .own t/\vi=⟨.own t,.v n⟩)∨(∃m,k = .rd t m/\vi=⟨.set t,srcE m n⟩))) /\
    (∀o cs,lk o q'.os=some cs->i<=o/\i≠o /\ ∃t m,(x::r)[o-i]? = some (.rd t m)/\cs=[.x o,.b (badE m (.v o))]) /\
    (∀(j:Nat) (t m:TypeId),r[j]? ≠ some (AK.mcell t m)/\r[j]? ≠ some (AK.wcell t m) /\ ∀gs:List Nat,r[j]? ≠ some (AK.ccell gs m t))/\(∀(j:Nat) (t:TypeId) (m:Bool),r[j]? = some (AK.rd t m)->lk (i+(j+1)) q'.os=some [.x (i+(j+1)),.b (badE m (.v (i+(j+1))))]):=fun {q'} hq=>by
   obtain⟨h1,h2,h3,h4,h5⟩:=zTD hq;refine⟨h1,fun n vi hn=>?_,fun o cs ho=>?_,h4,fun j t m hj=>?_⟩
   ·obtain⟨k1,k,t,k2,k3⟩:=h2 n vi hn;refine⟨by omega,by omega,k,t,?_,k3⟩;rw[show n-i=(n-(i+1))+1 by omega];simpa using k2
   ·obtain⟨k1,t,m,k2,k3⟩:=h3 o cs ho;refine⟨by omega,by omega,t,m,?_,k3⟩;rw[show o-i=(o-(i+1))+1 by omega];simpa using k2
   ·have:=h5 j t m hj
    rwa [show i+1+j=i+(j+1) by omega] at this
  have noM:∀(hx:∀(t m:TypeId),x≠AK.mcell t m/\x≠AK.wcell t m /\ ∀gs:List Nat,x≠AK.ccell gs m t),(∀(j:Nat) (t m:TypeId),r[j]? ≠ some (AK.mcell t m)/\r[j]? ≠ some (AK.wcell t m) /\ ∀gs:List Nat,r[j]? ≠ some (AK.ccell gs m t)) -> ∀(j:Nat) (t m:TypeId),(x::r)[j]? ≠ some (AK.mcell t m)/\(x::r)[j]? ≠ some (AK.wcell t m) /\ ∀gs:List Nat,(x::r)[j]? ≠ some (AK.ccell gs m t):=fun hx hr j t m=>by
   cases j with
   | zero=>simp only[List.getElem?_cons_zero,ne_eq,Option.some.injEq];exact hx t m
   | succ j=>simpa using hr j t m
  cases x with
  | mcell t m=>simp[yNA] at h
  | wcell t m=>simp[yNA] at h
  | ccell gs o t=>simp[yNA] at h
  | val t =>
   simp only[yNA] at h;split at h
   rotate_left
   ·cases h
   rename_i q' d hq hu;obtain⟨h1,h2,h3,h4,h5⟩:=up hq;have hO:∀(j:Nat) (u:TypeId) (m:Bool),(AK.val t::r)[j]? = some (AK.rd u m)->lk (i+j) q'.os=some [.x (i+j),.b (badE m (.v (i+j)))]:=fun j u m hj=>by
    cases j with
    | zero=>simp at hj
    | succ j=>exact h5 j u m (by simpa using hj)
   split at h
   ·cases h;exact⟨by simp[h1],fun n vi hn=>⟨(h2 n vi hn).1,(h2 n vi hn).2.2⟩,fun o cs ho=>⟨(h3 o cs ho).1,(h3 o cs ho).2.2⟩,noM (by simp) h4,hO⟩
   ·cases h;refine⟨by simp[h1],fun n vi hn=>?_,fun o cs ho=>⟨(h3 o cs ho).1,(h3 o cs ho).2.2⟩,noM (by simp) h4,hO⟩;by_cases hni:i=n
    ·subst hni;rw[zKA] at hn;cases hn
     exact⟨Nat.le_refl _,.val t,t,by simp,.inl ⟨rfl,rfl⟩⟩
    ·rw[zIA hni] at hn;exact⟨(h2 n vi hn).1,(h2 n vi hn).2.2⟩
  | own t =>
   simp only[yNA] at h;split at h
   rotate_left
   ·cases h
   rename_i q' hq;obtain⟨h1,h2,h3,h4,h5⟩:=up hq;cases h;refine⟨by simp[h1],fun n vi hn=>?_,fun o cs ho=>⟨(h3 o cs ho).1,(h3 o cs ho).2.2⟩,noM (by simp) h4,fun j u m' hj=>?_⟩
   ·by_cases hni:i=n
    ·subst hni;rw[zKA] at hn;cases hn
     exact⟨Nat.le_refl _,.own t,t,by simp,.inr (.inl ⟨rfl,rfl⟩)⟩
    ·rw[zIA hni] at hn;exact⟨(h2 n vi hn).1,(h2 n vi hn).2.2⟩
   ·cases j with
    | zero=>simp at hj
    | succ j=>exact h5 j u m' (by simpa using hj)
  | rd t m =>
   simp only[yNA] at h;split at h
   rotate_left
   ·cases h
   rename_i q' hq;obtain⟨h1,h2,h3,h4,h5⟩:=up hq;cases h;refine⟨by simp[h1],fun n vi hn=>?_,fun o cs ho=>?_,noM (by simp) h4,fun j u m' hj=>?_⟩
   ·by_cases hni:i=n
    ·subst hni;rw[zKA] at hn;cases hn
     exact⟨Nat.le_refl _,.rd t m,t,by simp,.inr (.inr ⟨m,rfl,rfl⟩)⟩
    ·rw[zIA hni] at hn;exact⟨(h2 n vi hn).1,(h2 n vi hn).2.2⟩
   ·by_cases hni:i=o
    ·subst hni;rw[zKA] at ho;cases ho
     exact⟨Nat.le_refl _,t,m,by simp,rfl⟩
    ·rw[zIA hni] at ho;exact⟨(h3 o cs ho).1,(h3 o cs ho).2.2⟩
   ·cases j with
    | zero=>simp at hj;obtain⟨rfl,rfl⟩:=hj;simp[xDA,yLA]
    | succ j=>rw[zIA (by omega)];exact h5 j u m' (by simpa using hj)
theorem zJG{ok:Nat->Prop}{w:World}:∀ {ks:List AK} {vs:List Value} {ds:List D},ArgsOk P ok w ks vs ds->vs.length=ks.length/\ds.length=ks.length
 | _,_,_,.nil=>⟨rfl,rfl⟩
 | _,_,_,.cons _ hs=>by obtain⟨h1,h2⟩:=zJG hs;exact⟨by simp[h1],by simp[h2]⟩
theorem zJF{ok:Nat->Prop}{w:World}:∀ {ks:List AK} {vs:List Value} {ds:List D},ArgsOk P ok w ks vs ds -> ∀(i:Nat) (k:AK),ks[i]? = some k -> ∃v d,vs[i]? = some v/\ds[i]? = some d/\ArgOk P ok w k v d
 | _,_,_,.nil,i,k,h=>by simp at h
 | _,_,_,.cons (v:=v) (d:=d) h hs,i,k,hi=>by
  cases i with
  | zero=>simp at hi;subst hi;exact⟨v,d,rfl,rfl,h⟩
  | succ i =>
   obtain⟨v',d',e1,e2,e3⟩:=zJF hs i k (by simpa using hi);exact⟨v',d',by simpa using e1,by simpa using e2,e3⟩
theorem yPK{w:World}:∀ {ks:List AK} {vs:List Value} {b:Nat},Wr w ks vs b ↔ ∃(i:Nat) (k:AK) (v:Value),ks[i]? = some k/\vs[i]? = some v/\wrA w k v b
 | [],vs,b=>by simp[Wr]
 | k::ks,[],b=>by simp[Wr]
 | k::ks,v::vs,b=>by
  simp only[Wr];constructor
  ·rintro(h|h)
   ·exact⟨0,k,v,rfl,rfl,h⟩
   ·obtain⟨i,k',v',h1,h2,h3⟩:=yPK.1 h;exact⟨i+1,k',v',by simpa using h1,by simpa using h2,h3⟩
  ·rintro⟨i,k',v',h1,h2,h3⟩;cases i with
   | zero=>simp at h1 h2;subst h1;subst h2;exact .inl h3
   | succ i=>exact .inr (yPK.2 ⟨i,k',v',by simpa using h1,by simpa using h2,h3⟩)
def qEF(ok:Nat->Prop)(w:World)(ks:List AK)(vs:List Value):Base:=⟨w,Wr w ks vs,fun b=>b<w.heap.size /\ ¬ok b /\ ¬Wr w ks vs b⟩
def qFH(w:World)(ks:List AK)(vs:List Value)(i:Nat):Value :=
 match ks[i]?,vs[i]? with
 | some (.rd _ _),some (.pointer (some a))=>(w.cell? ⟨a.block,a.off,none⟩).getD undef
 | _,some v=>v
 | _,_=>undef
def qMA(ok:Nat->Prop)(w:World)(ks:List AK)(vs:List Value):Gh:={ rv:=qFH w ks vs,rb:=fun i=>match vs[i]? with|some (.pointer (some a))=>a.block|_=>0,rh:=fun _=>(0,0),ex:=fun b=>b<w.heap.size /\ ¬ok b /\ ¬Wr w ks vs b }
theorem xDB{w:World}{ks:List AK}{vs:List Value}{i:Nat}{k:AK}{v:Value}(hk:ks[i]? = some k)(hv:vs[i]? = some v)(hn:∀t m,k ≠ .rd t m):qFH w ks vs i=v:=by
 unfold qFH;rw[hk,hv];cases k with
 | rd t m=>exact absurd rfl (hn t m)
 | _=>rfl
theorem qGH{w:World}{ks:List AK}{vs:List Value}{i b:Nat}{t:TypeId}{m:Bool}{ty:TypeId}{u v:Value}(hk:ks[i]? = some (.rd t m))(hv:vs[i]? = some (.pointer (some ⟨b,0,none⟩)))(hh:w.heap[b]? = some (.cells #[v,u] ty (0,0))):qFH w ks vs i=v:=by
 unfold qFH;rw[hk,hv];simp[World.cell?,hh]
theorem qHB{ok:Nat->Prop}{w:World}{g:Gh}{vs:List Value}{ds:List D}:∀ {ks:List AK} {i:Nat} {q:Sa},yNA P i ks=some q->(∀(j:Nat) (k:AK),ks[j]? = some k -> ∃v d,vs[i+j]? = some v/\ds[i+j]? = some d/\ArgOk P ok w k v d/\(match k with | .rd _ _=>∀b,v = .pointer (some ⟨b,0,none⟩)->g.rb (i+j)=b|_=>g.rv (i+j)=v)) ->
  dens X ds g q.as=(List.range' i ks.length).map (fun j=>vs.getD j undef)/\oks X ds q.as
 | [],i,q,hq,_=>by simp only[yNA,Option.some.injEq] at hq;subst hq;exact⟨by simp[dens],trivial⟩
 | .val t::ks,i,q,hq,h=>by
  obtain⟨v,d,e1,e2,e3,e4⟩:=h 0 (.val t) (by simp);rw[Nat.add_zero] at e1 e2 e4;simp only at e4;simp only[yNA] at hq;split at hq
  rotate_left
  ·cases hq
  rename_i q' td hq' hu;obtain⟨k1,k2⟩:=qHB (vs:=vs) (ds:=ds) (ok:=ok) (w:=w) (g:=g) hq' (fun j k hj=>by
   have:=h (j+1) k (by simpa using hj)
   rwa [show i+(j+1)=i+1+j by omega] at this)
  have hv:vs.getD i undef=v:=by simp[List.getD,e1]
  have hde:(DE.v i).eval X ds=d:=by simp[DE.eval,List.getD,e2]
  have hr:Rep P ok w t v d:=by cases e3 with|val hr=>exact hr
  split at hq
  ·cases hq
   have:=yHE (X:=X) (J:=ds) (g:=g) (P:=P) i (t:=t) (de:=.v i) (v:=v) (by rw[hde];exact hr) e4
   refine⟨?_,this.2,k2⟩;simp only[dens,List.length_cons,List.range'_succ,List.map_cons];rw[this.1,k1,hv]
  ·cases hq;refine⟨?_,trivial,k2⟩;simp only[dens,SV.den,List.length_cons,List.range'_succ,List.map_cons];rw[k1,e4,hv]
 | .own t::ks,i,q,hq,h=>by
  obtain⟨v,d,e1,e2,e3,e4⟩:=h 0 (.own t) (by simp);rw[Nat.add_zero] at e1 e2 e4;simp only at e4;simp only[yNA] at hq;split at hq
  rotate_left
  ·cases hq
  rename_i q' hq';obtain⟨k1,k2⟩:=qHB (vs:=vs) (ds:=ds) (ok:=ok) (w:=w) (g:=g) hq' (fun j k hj=>by
   have:=h (j+1) k (by simpa using hj)
   rwa [show i+(j+1)=i+1+j by omega] at this)
  have hv:vs.getD i undef=v:=by simp[List.getD,e1]
  cases hq;refine⟨?_,trivial,k2⟩;simp only[dens,SV.den,List.length_cons,List.range'_succ,List.map_cons];rw[k1,e4,hv]
 | .rd t m::ks,i,q,hq,h=>by
  obtain⟨v,d,e1,e2,e3,e4⟩:=h 0 (.rd t m) (by simp);rw[Nat.add_zero] at e1 e2 e4;simp only at e4;simp only[yNA] at hq;split at hq
  rotate_left
  ·cases hq
  rename_i q' hq';obtain⟨k1,k2⟩:=qHB (vs:=vs) (ds:=ds) (ok:=ok) (w:=w) (g:=g) hq' (fun j k hj=>by
   have:=h (j+1) k (by simpa using hj)
   rwa [show i+(j+1)=i+1+j by omega] at this)
  have hv:vs.getD i undef=v:=by simp[List.getD,e1]
  cases hq;refine⟨?_,trivial,k2⟩;cases e3 with
  | rd hh ht h1 hwf hr =>
   simp only[dens,SV.den,List.length_cons,List.range'_succ,List.map_cons];rw[k1,hv,e4 _ rfl]
 | .mcell _ _::ks,i,q,hq,h=>by simp[yNA] at hq
 | .wcell _ _::ks,i,q,hq,h=>by simp[yNA] at hq
 | .ccell _ _ _::ks,i,q,hq,h=>by simp[yNA] at hq
theorem qHH{ok:Nat->Prop}{w:World}{ks:List AK}{vs:List Value}{ds:List D}{nt:Nat}{q:Sa}(hq:yNA P 0 ks=some q)(ho:owns ks<=1)(hnt:ks.length<=nt)
  (h:ArgsOk P ok w ks vs ds) (hok:∀b,ok b->b<w.heap.size /\ ¬Wr w ks vs b)  (hgl:GlOk X (qEF ok w ks vs)):
  Mem P X (qEF ok w ks vs) ds (ySC ks.length q nt) (qMA ok w ks vs) w/\Env X ds (ySC ks.length q nt) (qMA ok w ks vs) { tmps:=vs.toArray++Array.replicate (nt-vs.toArray.size) undef,defers:=[] }:=by
 obtain⟨h1,h2⟩:=zJG h;have h3:=zJF h;obtain⟨hql,hlk,hlo,hnm,_⟩:=zTD hq;have hlk0:∀n vi,lk n q.vs=some vi->(∃t v d,ks[n]? = some (.val t)/\vi=⟨.set t,.v n⟩/\vs[n]? = some v/\(qMA ok w ks vs).rv n=v/\ds[n]? = some d/\Rep P ok w t v d)∨(∃t v d,ks[n]? = some (.own t)/\vi=⟨.own t,.v n⟩/\vs[n]? = some v/\(qMA ok w ks vs).rv n=v/\ds[n]? = some d/\ySA P ok w t v d) ∨
   (∃t m v d,vi=⟨.set t,srcE m n⟩/\(qMA ok w ks vs).rv n=v/\ds[n]? = some d/\Rep P ok w t v (rdSD m d)):=fun n vi hn=>by
  obtain⟨_,k,t,k1,k2⟩:=hlk n vi hn;rw[Nat.sub_zero] at k1;obtain⟨v,d,e1,e2,e3⟩:=h3 n _ k1;rcases k2 with⟨rfl,rfl⟩|⟨rfl,rfl⟩|⟨m,rfl,rfl⟩
  ·cases e3 with|val hr=>exact .inl ⟨t,v,d,k1,rfl,e1,xDB k1 e1 (by simp),e2,hr⟩
  ·cases e3 with|own hr=>exact .inr (.inl ⟨t,v,d,k1,rfl,e1,xDB k1 e1 (by simp),e2,hr⟩)
  ·cases e3 with|rd hh ht hone hwf hr=>exact .inr (.inr ⟨t,m,_,d,rfl,qGH k1 e1 hh,e2,hr⟩)
 have hlo0:∀o cs,lk o q.os=some cs -> ∃t b ty v m d,ks[o]? = some (.rd t m)/\vs[o]? = some (.pointer (some ⟨b,0,none⟩))/\cs=[.x o,.b (badE m (.v o))]/\(ds[o]? = some d/\rdWf m d)/\w.heap[b]? = some (.cells #[v,.bool (rdBD m d)] ty (0,0))/\v.oneCell'=true/\(qMA ok w ks vs).rb o=b/\(qMA ok w ks vs).rv o=v:=fun o cs hc=>by
  obtain⟨_,t,m,k1,k2⟩:=hlo o cs hc;rw[Nat.sub_zero] at k1;obtain⟨v,d,e1,e2,e3⟩:=h3 o _ k1;cases e3 with
  | rd hh ht hone hwf hr=>exact⟨t,_,_,_,m,d,k1,e1,k2,⟨e2,hwf⟩,hh,hone,by simp[qMA,e1],qGH k1 e1 hh⟩
 have hact:∀b,Actv (ySC ks.length q nt) (qMA ok w ks vs) b->Wr w ks vs b:=by
  rintro b (⟨o,cs,h4,h5⟩|⟨n,vi,h4,h5⟩)
  ·obtain⟨t,b',ty,v,m,d,k1,k2,k3,kd,k4,k5,k6,k7⟩:=hlo0 o cs h4;rw[k6] at h5;subst h5
   exact yPK.2 ⟨o,_,_,k1,k2,rfl⟩
  ·rcases hlk0 n vi h4 with⟨t,v,d,k1,rfl,k3,k4,k5⟩|⟨t,v,d,k1,rfl,k3,k4,k5⟩|⟨t,m,v,d,rfl,k4,k5⟩
   ·simp[zGA] at h5
   ·rw[k4] at h5;exact yPK.2 ⟨n,_,v,k1,k3,h5⟩
   ·simp[zGA] at h5
 have hokS:∀b,ok b->okOf (ySC ks.length q nt) (qMA ok w ks vs) w b:=fun b hb=>⟨(hok b hb).1,fun e=>(hok b hb).2 (hact b e),fun e=>e.2.1 hb⟩
 have hde:∀n d,ds[n]? = some d->(DE.v n).eval X ds=d:=fun n d hd=>by simp[DE.eval,List.getD,hd]
 have hvo:∀n vi b,lk n q.vs=some vi->zGA vi.vt ((qMA ok w ks vs).rv n)=some b -> ∃t,ks[n]? = some (.own t):=fun n vi b hn hb=>by
  rcases hlk0 n vi hn with⟨t,v,d,k1,rfl,k3⟩|⟨t,v,d,k1,rfl,k3⟩|⟨t,m,v,d,rfl,k3⟩
  ·simp[zGA] at hb
  ·exact⟨t,k1⟩
  ·simp[zGA] at hb
 refine⟨⟨fun n vi hn=>?_,fun o cs hc=>?_,fun o o' c c' hc hc' _=>?_,fun n m vi vj b h4 h5 h6 h7=>?_,fun o n c vi hc hn hb=>?_,fun b hb=>.inr (hact b hb),fun l hl=>by simp[ySC] at hl,Fr.refl _ w,by simp[ySC,h2],⟨fun b hb=>⟨hb.1,hb.2.2⟩,fun b hb=>hb⟩,hgl⟩,⟨fun s sv hs=>?_,rfl,by simp[ySC];omega⟩⟩
 ·rcases hlk0 n vi hn with⟨t,v,d,k1,rfl,k3,k4,k5,k6⟩|⟨t,v,d,k1,rfl,k3,k4,k5,k6⟩|⟨t,m,v,d,rfl,k4,k5,k6⟩
  ·simp only[zEB];rw[k4,hde n d k5];exact k6.mono hokS (fun _ _=>rfl)
  ·simp only[zEB];rw[k4,hde n d k5];exact k6.mono hokS (fun _ _=>rfl) (fun _ _=>rfl)
  ·simp only[zEB];have hse:(srcE m n).eval X ds=rdSD m d:=by
    cases m with
    | false=>exact hde n d k5
    | true=>show ((DE.v n).eval X ds).cells.getD 1 .nil=_;rw[hde n d k5];rfl
   rw[k4,hse];exact k6.mono hokS (fun _ _=>rfl)
 ·obtain⟨t,b',ty,v,m,d,k1,k2,rfl,⟨kd1,kd2⟩,k4,k5,k6,k7⟩:=hlo0 o cs hc;have hbe:(badE m (.v o)).eval X ds = .bool (rdBD m d):=by
   cases m with
   | false=>rfl
   | true =>
    obtain⟨bb,hbb⟩:=kd2 rfl;show ((DE.v o).eval X ds).cells.getD 2 .nil=_;rw[hde o d kd1,rdBD,hbb];rfl
  refine⟨⟨ty,?_⟩,?_,trivial,⟨_,hbe⟩,trivial⟩
  ·rw[k6,k4];simp only[dens,SV.den,k7,hbe,D.asBool]
  ·intro u hu;simp only[dens,SV.den,k7,List.mem_cons,List.not_mem_nil,or_false] at hu;rcases hu with rfl|rfl
   ·exact k5
   ·rfl
 ·obtain⟨t,_,_,_,_,_,k1,_⟩:=hlo0 o c hc;obtain⟨t',_,_,_,_,_,k1',_⟩:=hlo0 o' c' hc';exact yMD ho k1 k1' rfl rfl
 ·obtain⟨t1,e1⟩:=hvo n vi b h4 h6;obtain⟨t2,e2⟩:=hvo m vj b h5 h7;exact yMD ho e1 e2 rfl rfl
 ·obtain⟨t,_,_,_,_,_,k1,_⟩:=hlo0 o c hc;obtain⟨t2,e2⟩:=hvo n vi _ hn hb
  have:=yMD ho k1 e2 rfl rfl
  subst this;rw[k1] at e2;cases e2
 ·obtain⟨k1,k2⟩:=qHB (X:=X) (ok:=ok) (w:=w) (g:=qMA ok w ks vs) (vs:=vs) (ds:=ds) hq (fun j k hj=>by
   rw[Nat.zero_add];obtain⟨v,d,e1,e2,e3⟩:=h3 j k hj;refine⟨v,d,e1,e2,e3,?_⟩;cases k with
   | rd t m=>intro b hb;subst hb;simp[qMA,e1]
   | val t=>exact xDB hj e1 (by simp)
   | own t=>exact xDB hj e1 (by simp)
   | mcell t m=>exact xDB hj e1 (by simp)
   | wcell t m=>exact xDB hj e1 (by simp)
   | ccell gs o t=>exact xDB hj e1 (by simp))
  obtain⟨_,hs'⟩:=qSD q.as 0 s sv hs;rw[Nat.sub_zero] at hs';have hlt:s<ks.length:=by rw[<- hql];exact(List.getElem?_eq_some_iff.1 hs').1
  refine⟨?_,yFA.1 k2 sv (List.mem_of_getElem? hs')⟩;have h5:(dens X ds (qMA ok w ks vs) q.as)[s]? = some (sv.den X ds (qMA ok w ks vs)):=by rw[zSA,List.getElem?_map,hs'];rfl
  rw[k1,List.getElem?_map,List.getElem?_range' hlt] at h5;simp only[Option.map_some,Option.some.injEq,Nat.zero_add,Nat.one_mul] at h5;rw[<- h5];simp only;rw[Array.getElem?_append_left (by simp;omega),List.getElem?_toArray,List.getD_eq_getElem?_getD,List.getElem?_eq_getElem (by omega)];rfl
theorem yYF{as:List AK}{k:RK}{rs:List ResultVar}:∀ {outs:List Out} {ds:List (List (DE×Bool)×DE)},zWL P as k rs outs=some ds -> ∀o∈outs,∃d,outD P as k rs o=some d/\d∈ds
 | [],ds,h,o,ho=>by cases ho
 | p::r,ds,h,o,ho=>by
  simp only[zWL] at h;split at h
  ·rename_i d ds' h1 h2;cases h;rcases List.mem_cons.1 ho with rfl|ho
   ·exact⟨d,h1,by simp⟩
   ·obtain⟨d',k1,k2⟩:=yYF h2 o ho;exact⟨d',k1,List.mem_cons_of_mem _ k2⟩
  ·cases h
theorem ySA.u8{ok ok':Nat->Prop}{w:World}{t e:TypeId}{v:Value}{d:D}(h:ySA P ok w t v d)(hu:P.underlying t=some (.slice e))(h8:isU8 P e=true):ySA P ok' w t v d:=by
 obtain⟨e',i,n,xs,hu',hi,hown,hD⟩:=h;rw[hu] at hu';cases hu'
 have he8:P.underlying e=some (.int .u8):=by
  unfold isU8 at h8;split at h8
  ·assumption
  ·cases h8
 refine⟨e,i,n,xs,hu,hi,hown,?_⟩;cases hD with
 | nil hv=>exact .nil hv
 | bytes hv he hs=>exact .bytes hv he hs
 | list hv he=>exact absurd he8 he
theorem yWG{w0:Base}{s:St}{g:Gh}{w:World}(h:Mem P X w0 J s g w){t:TypeId}{r:SV}{d:DE}(hr:r.ok X J)(hd:retV P s t r=some d) :
  Rep P (fun b=>okOf (settle s r) g w b ∨ ∃o cs,r = .oa o 0/\lk o s.objs=some cs/\(b=g.rb o∨okOf (settles s cs) g w b)) w t (r.den X J g) (d.eval X J):=by
 unfold retV at hd;split at hd
 ·rename_i d' hs;cases hd;exact(xBA (Mem.settle r h).1 hr hs).mono (fun b hb=>.inl hb) (fun _ _=>rfl)
 ·split at hd
  rotate_left
  ·cases hd
  rename_i o _;split at hd
  rotate_left
  ·cases hd
  rename_i cs ho;unfold ptrK at hd;split at hd
  rotate_left
  ·cases hd
  rename_i e hu;split at hd
  rotate_left
  ·cases hd
  rename_i v hg;obtain⟨d2,hd2,rfl⟩:=Option.map_eq_some_iff.1 hd;have hob:=h.ob o cs ho;have hS:=(Mem.settles cs h).1;obtain⟨dd,i,hue,hi,hlen,hden,hok⟩:=qXA hS hob.2.2 hg;have hrep:=xBA hS hok hd2;rw[zFA];show Rep P _ w t (.pointer (some ⟨g.rb o,0,none⟩)) (.ptr (d2.eval X J));refine .ptr hu (.inr ⟨o,cs,rfl,ho,.inl rfl⟩) ?_ (hrep.mono (fun b hb=>.inr ⟨o,cs,rfl,ho,.inr hb⟩) (fun _ _=>rfl));have hc:=hob.cells
  have:(v.den X J g).cells.toList=dens X J g cs:=by
   rw[hden];cases ha:zHA dd with
   | true=>rfl
   | false =>
    rw[ha] at hlen;simp only[bfZ,if_false] at hlen ⊢;have h1:=(hrep.notAgg hue ha).1;rw[hden,ha] at h1;simp only[bfZ,if_false] at h1;rw[h1]
    match hcs:cs,hlen with
    | [x],_=>rfl
  rw[this];exact hc
theorem yQL{s:St}{g:Gh}{t:TypeId}{r:SV}{d:DE}(hd:retO P s t r=some d):∀b,(r.den X J g).ownBlock=some b->Actv s g b:=by
 intro b hb;unfold retO at hd;split at hd
 ·rename_i n;split at hd
  ·rename_i u d3 hn;exact .inr ⟨n,_,hn,hb⟩
  ·cases hd
 ·simp[SV.den,CV.den,Value.ownBlock] at hb
 ·cases hd
theorem yVG{w0:Base}{s:St}{g:Gh}{w:World}(h:Mem P X w0 J s g w){t:TypeId}{r:SV}{d:DE}(hd:retO P s t r=some d):ySA P (okOf s g w) w t (r.den X J g) (d.eval X J):=by
 unfold retO at hd;split at hd
 ·rename_i n;split at hd
  ·rename_i u d3 hn;split at hd
   ·rename_i hut;cases hd;subst hut;exact h.va n _ hn
   ·cases hd
  ·cases hd
 ·split at hd
  ·rename_i hso;cases hd;obtain⟨e,i,hu,hi⟩:=zLB hso;exact ySA.nilv hu hi
  ·cases hd
 ·cases hd
theorem xYI(s:St)(r:SV):(settle s r).objs=s.objs:=(zBB s r).2.1
theorem ret_ok{ok:Nat->Prop}{w w':World}{c:Ctr}{vs:List Value}{ds:List D}{s:St}{g':Gh}{q:Sa}{nt:Nat}(hm:Mem P X (qEF ok w c.args vs) ds s g' w')(hoo:yNG P c=true)(hq:yNA P 0 c.args=some q)
  (hA:ArgsOk P ok w c.args vs ds) (hx:Ext (ySC c.args.length q nt) (qMA ok w c.args vs) s g') {l:List SV} (hl:(tupS l).ok X ds) {d:DE} (hd:retD P s c.args c.res l=some d) (hbad:∀t,c.res = .rd t false->(d.eval X ds).cells.getD 2 .nil = .bool false) :
  xKB P ok w w' c vs ((tupS l).den X ds g') (d.eval X ds):=by
 obtain⟨_,_,_,hnm,hob0⟩:=zTD hq;have hexb:∀b,b<w.heap.size -> ¬g'.ex b->ok b∨Wr w c.args vs b:=fun b hb hne=>by
  by_cases h1:ok b
  ·exact .inl h1
  ·by_cases h2:Wr w c.args vs b
   ·exact .inr h2
   ·exact absurd (hm.ex.2 b ⟨hb,h1,h2⟩) hne
 have hwr0:owns c.args=0 -> ∀b,¬Wr w c.args vs b:=fun hz b h3=>by
  obtain⟨i,k,v,e1,e2,e3⟩:=yPK.1 h3
  have:=zRE hz e1
  cases k with
  | own t'=>simp[yGF] at this
  | rd t'=>simp[yGF] at this
  | val t'=>exact e3.elim
  | mcell t' m=>exact e3.elim
  | wcell t' m=>exact(hnm i t' m).2.1 e1
  | ccell gs m t'=>exact(hnm i t' m).2.2 gs e1
 have hval:∀(r:SV) (t:TypeId) (d:DE),r.ok X ds->retV P s t r=some d->owns c.args=0 -> ∀ok':Nat->Prop,(∀b,ok b->ok' b)->(∀b,w.heap.size<=b->b<w'.heap.size->ok' b)->Rep P ok' w' t (r.den X ds g') (d.eval X ds):=fun r t d hr hd hz ok' h1 h2=>by
  refine(yWG hm hr hd).mono (fun b hb=>?_) (fun _ _=>rfl);have hb':b<w'.heap.size /\ ¬g'.ex b:=by
   rcases hb with hb|⟨o,cs,_,ho,rfl|hb⟩
   ·exact⟨hb.1,hb.2.2⟩
   ·exact⟨(hm.ob o cs ho).lt,hm.notEx (.inl ⟨o,cs,ho,rfl⟩)⟩
   ·exact⟨hb.1,hb.2.2⟩
  by_cases hlt:b<w.heap.size
  ·rcases hexb b hlt hb'.2 with h3|h3
   ·exact h1 b h3
   ·exact absurd h3 (hwr0 hz b)
  ·exact h2 b (by omega) hb'.1
 have hown:∀(r:SV) (t:TypeId) (d:DE),retO P s t r=some d->(owns c.args=0 ∨ ∃e,P.underlying t=some (.slice e)/\isU8 P e=true)->(∀b,(r.den X ds g').ownBlock=some b->(w.heap.size<=b∨Wr w c.args vs b)/\b<w'.heap.size) /\
   ∀ok':Nat->Prop,(∀b,ok b->ok' b)->(∀b,w.heap.size<=b->b<w'.heap.size->(r.den X ds g').ownBlock≠some b->ok' b)->ySA P ok' w' t (r.den X ds g') (d.eval X ds):=fun r t d hd hz=>by
  have hkeep:=yQL (X:=X) (J:=ds) (g:=g') hd;refine⟨fun b hb=>⟨hm.lo b (hkeep b hb),hm.act_lt (hkeep b hb)⟩,fun ok' h1 h2=>?_⟩;rcases hz with hz|⟨e,hu,h8⟩
  ·refine(yVG hm hd).mono (fun b hb=>?_) (fun _ _=>rfl) (fun _ _=>rfl);by_cases hlt:b<w.heap.size
   ·rcases hexb b hlt hb.2.2 with h3|h3
    ·exact h1 b h3
    ·exact absurd h3 (hwr0 hz b)
   ·exact h2 b (by omega) hb.1 (fun e=>hb.2.1 (hkeep b e))
  ·exact(yVG hm hd).u8 hu h8
 unfold yNG at hoo;unfold retD at hd;split at hd
 ·split at hd
  ·rename_i hct;unfold xKB;rw[hct];rfl
  ·cases hd
 ·rename_i r;have hr:r.ok X ds:=hl;split at hd
  ·rename_i t hct;unfold xKB;rw[hct] at hoo ⊢;simp only[beq_iff_eq] at hoo ⊢;exact hval r t d hr hd hoo
  ·rename_i t hct;unfold xKB;rw[hct] at hoo ⊢;simp only[Bool.or_eq_true,baZ,beq_iff_eq] at hoo ⊢;refine hown r t d hd ?_;rcases hoo with hz|⟨_,h8⟩
   ·exact .inl hz
   ·split at h8
    ·rename_i e hu;exact .inr ⟨e,hu,h8⟩
    ·cases h8
  ·rename_i t m hct;unfold xKB;have hb:m=false->_:=fun h=>hbad t (by rw[hct,h])
   rw[hct] at hoo ⊢;simp only[beq_iff_eq] at hoo ⊢;unfold retR at hd;split at hd
   rotate_left
   ·cases hd
   rename_i i tb m' hrd;have hi:=(yHL hrd).2;rw[Nat.sub_zero] at hi;split at hd
   rotate_left
   ·cases hd
   rename_i hmm;subst hmm;split at hd
   rotate_left
   ·cases hd
   rename_i d1 x e hd1 hos;split at hd
   rotate_left
   ·cases hd
   rename_i hno;split at hd
   rotate_left
   ·cases hd
   rename_i d2 hd2;cases hd;obtain⟨v,dv,e1,e2,e3⟩:=zJF hA i _ hi;have hos0:=hob0 i tb m hi;rw[Nat.zero_add] at hos0;have hrb:=(hx.rb i _ hos0).2;cases e3 with
   | rd hh ht hone hwf0 hrr =>
    rename_i b ty v0;have hrbi:g'.rb i=b:=by rw[hrb];simp[qMA,e1]
    obtain⟨⟨ty',hh'⟩,_,hok1,hok2,_⟩:=hm.ob i _ hos;obtain⟨bb,hbb⟩:=hok2;have hev:((DE.f .mkrow [d1,d2,e]).eval X ds) = .row [d1.eval X ds,d2.eval X ds,e.eval X ds]:=by simp[DE.eval,zDA,Fn.eval]
    rw[hev] at hb ⊢;have hb:e.eval X ds = .bool (rdBD m (.row [d1.eval X ds,d2.eval X ds,e.eval X ds])):=by
     cases m with
     | false=>exact hb rfl
     | true=>rw[hbb];rfl
    have hrdb:∀b',Wr w c.args vs b'->b'=g'.rb i:=fun b' h3=>by
     obtain⟨j,k,v',f1,f2,f3⟩:=yPK.1 h3;cases k with
     | own t' =>
      have:=yMD (by omega) f1 hi rfl rfl
      subst this;rw[hi] at f1;cases f1
     | rd t' m' =>
      have:=yMD (by omega) f1 hi rfl rfl
      subst this;rw[e1] at f2;cases f2
      rw[hrbi];exact f3
     | val t'=>exact f3.elim
     | mcell t' m=>exact f3.elim
     | wcell t' m=>exact((hnm j t' m).2.1 f1).elim
     | ccell gs m t'=>exact((hnm j t' m).2.2 gs f1).elim
    have hact:Actv (settle s r) g' (g'.rb i):=.inl ⟨i,_,by rw[xYI];exact hos,rfl⟩;refine⟨b,ty',tb,x.den X ds g',⟨i,hi,by rw[e1]⟩,?_,fun _=>⟨bb,hbb⟩,fun ok' h1 h2=>⟨?_,?_⟩⟩
    ·rw[<- hrbi,hh'];have hb':(e.eval X ds).asBool=rdBD m (.row [d1.eval X ds,d2.eval X ds,e.eval X ds]):=congrArg D.asBool hb;simp only[dens,SV.den,hb']
    ·refine(yWG hm hr hd1).mono (fun b' hb'=>?_) (fun _ _=>rfl);have hne:b'≠g'.rb i:=by
      rcases hb' with hb'|⟨o,cs,rfl,ho,rfl|hb'⟩
      ·exact fun e=>hb'.2.1 (e▸hact)
      rotate_left
      ·exact fun e=>hb'.2.1 (e▸(.inl ⟨i,_,by rw[(xUA s cs).2.1];exact hos,rfl⟩))
      ·intro e
       have:=hm.oo o i cs _ ho hos e
       subst this;simp[notO] at hno
     have hb2:b'<w'.heap.size /\ ¬g'.ex b':=by
      rcases hb' with hb'|⟨o,cs,_,ho,rfl|hb'⟩
      ·exact⟨hb'.1,hb'.2.2⟩
      rotate_left
      ·exact⟨hb'.1,hb'.2.2⟩
      ·exact⟨(hm.ob o cs ho).lt,hm.notEx (.inl ⟨o,cs,ho,rfl⟩)⟩
     by_cases hlt:b'<w.heap.size
     ·rcases hexb b' hlt hb2.2 with h3|h3
      ·exact h1 b' h3
      ·exact absurd (hrdb b' h3) hne
     ·exact h2 b' (by omega) hb2.1
    ·refine(xBA (Mem.settle r hm).1 hok1 hd2).mono (fun b' hb'=>?_) (fun _ _=>rfl);by_cases hlt:b'<w.heap.size
     ·rcases hexb b' hlt hb'.2.2 with h3|h3
      ·exact h1 b' h3
      ·exact absurd (hrdb b' h3) (fun e=>hb'.2.1 (e▸hact))
     ·exact h2 b' (by omega) hb'.1
  ·cases hd
 ·rename_i r;have hr:r.ok X ds:=hl.1;have hden:(tupS [r,SV.b (.k (.bool true))]).den X ds g' = .tuple #[r.den X ds g',.bool true]:=by simp[tupS,SV.den,dens,DE.eval,D.asBool]
  rw[hden];split at hd
  ·rename_i t hct;unfold xKB;rw[hct] at hoo ⊢;simp only[beq_iff_eq] at hoo ⊢;exact⟨_,rfl,hval r t d hr hd hoo⟩
  ·rename_i t hct;unfold xKB;rw[hct] at hoo ⊢;simp only[beq_iff_eq] at hoo ⊢;exact⟨_,rfl,hown r t d hd (.inl hoo)⟩
  ·cases hd
 ·cases hd
theorem zXL{c:Ctr}(hoo:yNG P c=true):owns c.args<=1:=by
 unfold yNG at hoo;split at hoo
 ·simp only[beq_iff_eq] at hoo;omega
 ·simp only[Bool.or_eq_true,baZ,beq_iff_eq] at hoo;rcases hoo with h|h <;> omega
 ·simp only[beq_iff_eq] at hoo;omega
 ·simp only[beq_iff_eq] at hoo;omega
 ·simp only[beq_iff_eq] at hoo;omega
 ·simp only[beq_iff_eq] at hoo;omega
 ·cases hoo
def GoodR(c:Ctr)(d:D):Prop:=∀t,c.res = .rd t false->d.cells.getD 2 .nil = .bool false
theorem qPC{C:Cfg}{PreG:Nat->List D->Prop}(hnm:xJA C.P)(hord:C.P.follows .mixedOrders=true)(hctr:∀f c,C.ctr f=some c->qRA C.P X Pre f c){n dp:Nat}{f:FuncId}{c:Ctr}{fn:Func}{de:DE}{os:List Ob}
  (hf:C.P.funcs[f]? = some fn) (hrun:runF C n dp c fn=some (de,os))
  (hX:∀(ok:Nat->Prop) (w:World) (vs:List Value) (ds:List D),ArgsOk C.P ok w c.args vs ds->(c.pre=true->PreG c.fn ds)->zCA X Pre os ds/\de.eval X ds=X c.fn ds/\GoodR c (X c.fn ds)) (hgl:∀w0:Base,GlOk X w0:=by exact fun _ k hk=>absurd rfl hk):qRA C.P X PreG f c:=by
 unfold runF at hrun;split at hrun
 rotate_left
 ·cases hrun
 rename_i body q hbody hq;split at hrun
 rotate_left
 ·cases hrun
 rename_i hoc;simp only[baZ,dtZ] at hoc;obtain⟨hoo,hnt⟩:=hoc;split at hrun
 rotate_left
 ·cases hrun
 rename_i outs houts;split at hrun
 rotate_left
 ·cases hrun
 rename_i hall;split at hrun
 rotate_left
 ·cases hrun
 rename_i dl hdl;split at hrun
 rotate_left
 ·cases hrun
 rename_i d' o' htd hto;cases hrun;refine⟨⟨fn,body,hf,hbody⟩,fun ok w vs ds hA hok hRd hpre=>?_⟩;obtain⟨hm,he⟩:=qHH (X:=X) hq (zXL hoo) hnt hA hok (hgl _);obtain⟨hob,hde,hgood⟩:=hX ok w vs ds hA hpre;have hsound:=ySE hnm hord hctr n dp;refine calls_of_wp hf hbody (zWA ?_);refine hsound.sound _ ds [body] _ outs _ w _ hm he houts (fun o ho hpc=>xFB hto hob (o.pc,o.st.obl) (List.mem_map.2 ⟨o,ho,rfl⟩) hpc) _ (fun o ho hpc g' w' a' k1 k2 k3=>?_);obtain⟨dd,hod,hdm⟩:=yYF hdl o ho;unfold outD at hod;split at hod
 rotate_left
 ·cases hod
 rename_i l hrs;obtain⟨d2,hd2,rfl⟩:=Option.map_eq_some_iff.1 hod;have hev:de.eval X ds=d2.eval X ds:=xEB htd _ hdm hpc;obtain⟨r1,r2⟩:=xRC k2 k3 hrs;have hfr:Fr (Wr w c.args vs) w w':=k2.fr;have hres:xKB C.P ok w w' c vs ((tupS l).den X ds g') (X c.fn ds):=by
  rw[<- hde,hev];exact ret_ok k2 hoo hq hA k1 r2 hd2 (fun t ht=>by rw[<- hev,hde];exact hgood t ht)
 have hpost:a'.defers=[] /\ ∃v,(results fn a'.tmps).run C.P w' = .ok v w'/\(∃v',Ending.returned v = .returned v'/\Fr (Wr w c.args vs) w w'/\xKB C.P ok w w' c vs v' (X c.fn ds)) :=
  ⟨k3.df,_,r1,_,rfl,hfr,hres⟩
 rcases qIC hall o ho with hx|hx
 ·rw[hx];exact hpost
 ·rw[hx];exact hpost
end
end Go.Dx
namespace Go.Mx
open Go Go.Dx
structure Tg where
 key:Int
 val:Option (List UInt8)
inductive T where
 | mk (n:Int) (s:Option (List UInt8)) (null:Bool) (l:Option (List T)) (u:Option (List Tg))
inductive Fl where
 | mk (kind frm to null tag dflt of:Int) (sub:Option (List Fl))
namespace T
def n:T->Int | .mk n _ _ _ _=>n
def s:T->Option (List UInt8) | .mk _ s _ _ _=>s
def null:T->Bool | .mk _ _ b _ _=>b
def l:T->Option (List T) | .mk _ _ _ l _=>l
def u:T->Option (List Tg) | .mk _ _ _ _ u=>u
def S(t:T):List UInt8:=t.s.getD []
def L(t:T):List T:=t.l.getD []
def U(t:T):List Tg:=t.u.getD []
def zero:T:=.mk 0 none false none none
end T
namespace Fl
def kind:Fl->Int | .mk k _ _ _ _ _ _ _=>k
def frm:Fl->Int | .mk _ k _ _ _ _ _ _=>k
def to:Fl->Int | .mk _ _ k _ _ _ _ _=>k
def null:Fl->Int | .mk _ _ _ k _ _ _ _=>k
def tag:Fl->Int | .mk _ _ _ _ k _ _ _=>k
def dflt:Fl->Int | .mk _ _ _ _ _ k _ _=>k
def of:Fl->Int | .mk _ _ _ _ _ _ k _=>k
def sub:Fl->Option (List Fl) | .mk _ _ _ _ _ _ _ s=>s
end Fl
def encB:Option (List UInt8)->D
 | none=>.nil
 | some s=>.bytes s
def Tg.d(t:Tg):D:=.row [.int t.key,encB t.val]
def encU:Option (List Tg)->D
 | none=>.nil
 | some l=>.list (l.map Tg.d)
mutual
def T.d:T->D
 | .mk n s b l u=>.row [.int n,encB s,.bool b,encT l,encU u]
def encT:Option (List T)->D
 | none=>.nil
 | some l=>.list (tds l)
def tds:List T->List D
 | []=>[]
 | t::r=>t.d::tds r
end
mutual
def Fl.d:Fl->D
 | .mk k f t n g d o s=>.row [.int k,.int f,.int t,.int n,.int g,.int d,.int o,encF s]
def encF:Option (List Fl)->D
 | none=>.nil
 | some l=>.list (fds l)
def fds:List Fl->List D
 | []=>[]
 | t::r=>t.d::fds r
end
theorem yBC:∀l:List T,tds l=l.map T.d
 | []=>rfl
 | t::r=>by simp[tds,yBC r]
theorem xSG:∀l:List Fl,fds l=l.map Fl.d
 | []=>rfl
 | t::r=>by simp[fds,xSG r]
def decB:D->Option (List UInt8)
 | .bytes s=>some s
 | _=>none
def toTg:D->Tg
 | .row [k,v]=>⟨k.asInt,decB v⟩
 | _=>⟨0,none⟩
def decU:D->Option (List Tg)
 | .list l=>some (l.map toTg)
 | _=>none
mutual
def toT:D->T
 | .row [n,s,b,l,u]=>.mk n.asInt (decB s) b.asBool (decT l) (decU u)
 | _=>T.zero
 termination_by d=>SizeOf.sizeOf d
def decT:D->Option (List T)
 | .list l=>some (toTl l)
 | _=>none
 termination_by d=>SizeOf.sizeOf d
def toTl:List D->List T
 | []=>[]
 | t::r=>toT t::toTl r
 termination_by d=>SizeOf.sizeOf d
end
mutual
def toF:D->Fl
 | .row [k,f,t,n,g,d,o,s]=>.mk k.asInt f.asInt t.asInt n.asInt g.asInt d.asInt o.asInt (decF s)
 | _=>.mk 0 0 0 0 0 0 0 none
 termination_by d=>SizeOf.sizeOf d
def decF:D->Option (List Fl)
 | .list l=>some (toFl l)
 | _=>none
 termination_by d=>SizeOf.sizeOf d
def toFl:List D->List Fl
 | []=>[]
 | t::r=>toF t::toFl r
 termination_by d=>SizeOf.sizeOf d
end
@[simp] theorem decB_enc (s:Option (List UInt8)):decB (encB s)=s:=by cases s <;> rfl
@[simp] theorem toTg_d (t:Tg):toTg t.d=t:=by cases t;simp[Tg.d,toTg,D.asInt]
@[simp] theorem decU_enc (u:Option (List Tg)):decU (encU u)=u:=by
 cases u with
 | none=>rfl
 | some l =>
  simp only[encU,decU,Option.some.injEq,List.map_map]
  conv=>rhs;rw[<- List.map_id l]
  apply List.map_congr_left;intro t _;simp
mutual
theorem yTA:∀t:T,toT t.d=t
 | .mk n s b l u=>by
  rw[T.d,toT,zDJ l];simp[D.asInt,D.asBool]
theorem zDJ:∀l:Option (List T),decT (encT l)=l
 | none=>by rw[encT,decT];intro l h;cases h
 | some l=>by rw[encT,decT,xJJ l]
theorem xJJ:∀l:List T,toTl (tds l)=l
 | []=>by rw[tds,toTl]
 | t::r=>by rw[tds,toTl,yTA t,xJJ r]
end
mutual
theorem qNA:∀t:Fl,toF t.d=t
 | .mk k f t n g d o s=>by
  rw[Fl.d,toF,zLA s];simp[D.asInt]
theorem zLA:∀l:Option (List Fl),decF (encF l)=l
 | none=>by rw[encF,decF];intro l h;cases h
 | some l=>by rw[encF,decF,xHJ l]
theorem xHJ:∀l:List Fl,toFl (fds l)=l
 | []=>by rw[fds,toFl]
 | t::r=>by rw[fds,toFl,qNA t,xHJ r]
end
attribute [simp] yTA zDJ qNA zLA
def nz{α:Type}(l:List α):Option (List α):=match l with|[]=>none|l=>some l
def Most:Nat:=32767
def whole(s:Option (List UInt8)):Option (List UInt8):=s.map (·.take Most)
def yEE(l:Option (List T)):Option (List T):=l.map (·.take Most)
def at'(t:T)(i:Int):T:=if i<t.L.length then t.L.getD i.toNat T.zero else T.zero
def has(f:Fl)(v:Int):Bool:=decide (f.frm<=v)&&(decide (f.to<0) || decide (v<=f.to))
def null(f:Fl)(v:Int)(t:T):Bool:=t.null&&(decide (0<=f.null)&&decide (f.null<=v))
def yUD(k:Int):Int:=if k=1 then 1 else if k=2∨k=5 then 2 else if k=3 then 4 else 8
def qBA(l:List Fl):Nat:=l.foldl (fun n f=>if 0<=f.tag then max n (f.tag.toNat+1) else n) 0
def xEA(x:Tg):List Tg->List Tg
 | []=>[x]
 | t::r=>if t.key<x.key then t::xEA x r else if t.key=x.key then t::r else x::t::r
def zTA(fs:List Fl)(l:Option (List Tg)):List Tg:=((l.getD []).take Most).foldl (fun out t=>if t.key<(qBA fs:Int) then out else xEA t out) []
def xZA(n:Int)(i:Nat):UInt8:=UInt8.ofNat (IntKind.u8.wrap (n.fdiv (2 ^ (8*i)))).toNat
def zMA(n:Int)(size:Nat):List UInt8:=((List.range size).reverse).map (xZA n)
def zEA(n:Nat):List UInt8:=if 127<n then UInt8.ofNat (n%128+128)::zEA (n / 128) else [UInt8.ofNat n]
 termination_by n
 decreasing_by omega
def counted(flex null:Bool)(n:Nat)(size:Nat):List UInt8 :=
 if flex&&null then [0] else if flex then zEA (n+1) else if null then zMA (-1) size else zMA n size
def zOB(s:List UInt8):List UInt8:=s.take 16++List.replicate (16-s.length) 0
mutual
def qSA:Fl->T->Bool
 | .mk k _ _ nl _ df _ sub,t =>
  if k=0 then decide (t.n%2=df) else
  if k=7 then (t.S.take 16).all (· == 0) else
  if k=8∨k=9 then (if 0<=nl then t.null else t.S.length==0) else
  if k=11 then t.L.length==0 else
  if k=10 then yGE sub t else
  zMA t.n (yUD k).toNat==zMA df (yUD k).toNat
def yGE:Option (List Fl)->T->Bool
 | none,t=>(zTA [] t.u).length==0
 | some l,t=>yJB l 0 t&&(zTA l t.u).length==0
def yJB:List Fl->Nat->T->Bool
 | [],_,_=>true
 | f::r,i,t=>qSA f (at' t i)&&yJB r (i+1) t
end
def yZA(kind:Int)(null flex:Bool)(t:T)(pt:List UInt8):List UInt8 :=
 if kind=0 then [UInt8.ofNat (t.n%2).toNat] else
 if kind=7 then zOB t.S else
 if kind=8 then (let s:=if null then [] else t.S.take Most;counted flex null s.length 2++s) else
 if kind=9 then (let s:=if null then [] else t.S.take Most;counted flex null s.length 4++s) else
 if kind=10 then pt else
 zMA t.n (yUD kind).toNat
def zMC(kind nl of:Int)(null flex:Bool)(t:T)(pt:T->List UInt8):List UInt8 :=
 if kind=11 then (let l:=if null then [] else t.L.take Most;counted flex null l.length 4++(l.map fun x=>yZA of false flex x (pt x)).flatten) else
 if kind=10/\0<=nl then (if null then zMA (-1) 1 else zMA 1 1++pt t) else
 yZA kind null flex t (pt t)
def tagB(k:Nat)(b:List UInt8):List UInt8:=zEA k++zEA b.length++b
def yDK(rows:List (Fl×T×List UInt8))(n:Nat):List (List UInt8) :=
 (List.range n).flatMap fun(g:Nat)=>rows.filterMap fun r=>if r.1.tag=(g:Int)/\qSA r.1 r.2.1=false then some (tagB g r.2.2) else none
def qMG(v:Int)(flex:Bool)(fs:List Fl)(u:Option (List Tg))(rows:List (Fl×T×List UInt8)):List UInt8 :=
 let out:=(rows.map fun r=>if r.1.tag<0/\has r.1 v=true then r.2.2 else []).flatten
 if flex then
  let tags:=yDK rows (qBA fs)++(zTA fs u).map fun x=>tagB (IntKind.u64.wrap x.key).toNat ((x.val.getD []).take Most)
  out++zEA tags.length++tags.flatten
 else out
mutual
def field:Fl->Int->Bool->T->List UInt8
 | .mk k fr to nl tg df of sub,v,flex,t=>zMC k nl of (Mx.null (.mk k fr to nl tg df of sub) v t) flex t (fun x=>yPA sub v flex x)
def yPA:Option (List Fl)->Int->Bool->T->List UInt8
 | none,v,flex,t=>qMG v flex [] t.u []
 | some l,v,flex,t=>qMG v flex l t.u (rowsL l 0 v flex t)
def rowsL:List Fl->Nat->Int->Bool->T->List (Fl×T×List UInt8)
 | [],_,_,_,_=>[]
 | f::r,i,v,flex,t=>(f,at' t i,field f v flex (at' t i))::rowsL r (i+1) v flex t
end
def xHC(kind:Int)(null:Bool)(t:T)(ft:T):T :=
 if kind=8∨kind=9 then .mk 0 (whole t.s) null none none else
 if kind=10 then .mk ft.n ft.s null ft.l ft.u else
 .mk t.n t.s false none none
mutual
def yBB:Fl->Int->T->T
 | .mk k fr to nl tg df of sub,v,t =>
  if k=11 then .mk 0 none (Mx.null (.mk k fr to nl tg df of sub) v t || (decide (0<=tg)&&t.L.length==0)) (nz ((t.L.take Most).map fun x=>xHC of false x (FitS sub v x))) none else
  xHC k (Mx.null (.mk k fr to nl tg df of sub) v t) t (FitS sub v t)
def FitS:Option (List Fl)->Int->T->T
 | none,_,t=>.mk 0 none false none (nz ((zTA [] t.u).map fun x=>⟨x.key,whole x.val⟩))
 | some l,v,t=>.mk 0 none false (nz (fitL l 0 v t)) (nz ((zTA l t.u).map fun x=>⟨x.key,whole x.val⟩))
def fitL:List Fl->Nat->Int->T->List T
 | [],_,_,_=>[]
 | f::r,i,v,t=>yBB f v (at' t i)::fitL r (i+1) v t
end
def one(f:Fl):Fl:=.mk f.of f.frm f.to (-1) (-1) f.dflt f.of f.sub
mutual
def given:T->T
 | .mk n s b l u=>.mk n s b (xUE l) (nz (u.getD []))
def xUE:Option (List T)->Option (List T)
 | none=>none
 | some l=>nz (zVG l)
def zVG:List T->List T
 | []=>[]
 | t::r=>given t::zVG r
end
theorem yGD:∀l:List T,zVG l=l.map given
 | []=>rfl
 | t::r=>by simp[zVG,yGD r]
def zRA(flex v:Int):Bool:=decide (0<=flex)&&decide (flex<=v)
def numK(k n:Int):Int :=
 if k=0 then n%2 else if k=1 then IntKind.i64.wrap (IntKind.i8.wrap n) else if k=2 then IntKind.i64.wrap (IntKind.i16.wrap n) else
 if k=3 then IntKind.i64.wrap (IntKind.i32.wrap n) else if k=5 then IntKind.i64.wrap (IntKind.u16.wrap n) else n
def all2{A B:Type}(p:A->B->Bool):List A->List B->Bool
 | a::as,b::bs=>p a b&&all2 p as bs
 | _,_=>true
mutual
def usF:Fl->T->Bool
 | .mk k _ _ nl _ df _ sub,x =>
  if k=8 then (x.null==decide (0<=nl))&&x.S.length==0 else
  if k=7 then x.S==List.replicate 16 0 else
  if k=9∨k=11 then x.S.length==0&&x.L.length==0 else
  if k=10 then (if 0<=nl then x.null else usS sub x) else
  decide (x.n=numK k df)
def usS:Option (List Fl)->T->Bool
 | none,g=>g.U.length==0
 | some l,g=>g.U.length==0&&usL l 0 g
def usL:List Fl->Nat->T->Bool
 | [],_,_=>true
 | f::r,i,g=>usF f (at' g i)&&usL r (i+1) g
end
def zDG(k:Int)(nu may:Bool)(t g:T)(pt:Bool):Bool :=
 if (k=8∨k=10∨may=true)/\(g.null==nu)=false then false else
 if nu then true else
 if k=8∨k=9 then g.S==t.S.take Most else
 if k=7 then g.S==zOB t.S else
 if k=10 then pt else
 decide (g.n=numK k t.n)
def toldU(fs:List Fl)(x:Bool)(t g:T):Bool :=
 let l:=if x then zTA fs t.u else []
 g.U.length==l.length&&all2 (fun(a b:Tg)=>decide (b.key=a.key)&&(b.val.getD []==(a.val.getD []).take Most)) l g.U
mutual
def zEH:Fl->Int->Bool->T->T->Bool
 | .mk k fr to nl tg df of sub,v,x,t,g =>
  if k=11 then
   (if (decide (0<=nl)&&decide (nl<=v))=true/\(g.null==Mx.null (.mk k fr to nl tg df of sub) v t)=false then false else
   if Mx.null (.mk k fr to nl tg df of sub) v t then true else
   g.L.length==(t.L.take Most).length&&all2 (fun y z=>zDG of false false y z (qKE sub v x y z)) (t.L.take Most) g.L)
  else zDG k (Mx.null (.mk k fr to nl tg df of sub) v t) (decide (0<=nl)&&decide (nl<=v)) t g (qKE sub v x t g)
def qKE:Option (List Fl)->Int->Bool->T->T->Bool
 | none,_,x,t,g=>g.L.length==0&&toldU [] x t g
 | some l,v,x,t,g=>g.L.length==l.length&&(zCG l 0 v x t g&&toldU l x t g)
def zCG:List Fl->Nat->Int->Bool->T->T->Bool
 | [],_,_,_,_,_=>true
 | f::r,i,v,x,t,g =>
  (if (decide (f.tag<0)&&has f v || decide (0<=f.tag)&&(x && !qSA f (at' t i)))=true then zEH f v x (at' t i) (g.L.getD i T.zero) else usF f (g.L.getD i T.zero))&&zCG r (i+1) v x t g
end
def defL:List Fl->Nat->T->Bool
 | [],_,_=>true
 | f::r,i,g=>(decide (f.dflt=0) || decide ((at' g i).n=numK f.kind f.dflt))&&defL r (i+1) g
mutual
def sameT:T->T->Bool
 | .mk n s b l u,t=>decide (n=t.n)&&(b==t.null)&&(s.getD []==t.S)&&sameO l t.L&&(u.getD []).length==t.U.length&&all2 (fun(a b:Tg)=>decide (a.key=b.key)&&(a.val.getD []==b.val.getD [])) (u.getD []) t.U
def sameO:Option (List T)->List T->Bool
 | none,l=>l.length==0
 | some k,l=>sameL k l
def sameL:List T->List T->Bool
 | [],[]=>true
 | a::r,b::q=>sameT a b&&sameL r q
 | _,_=>false
end
end Go.Mx
namespace Go.Mx
open Go Go.Dx
structure Msg where
 tg:Bool
 kept:Bool
 fs:Option (List Fl)
 fx:Int
 most:Int
def qEF(m:Msg)(v:Int):List UInt8:=if m.kept then zMA v 2 else []
def SrtT(l:List Tg):Prop:=l.Pairwise fun a b=>a.key<b.key
def okV(v k nl:Int)(t:T):Prop:=(k=8∨k=9)->t.S.length<=Most/\(t.null=true->0<=nl/\nl<=v)
def zRB(u:List Tg):Prop:=SrtT u/\u.length<=Most /\ ∀x∈u,0<=x.key/\x.key<4294967296/\(x.val.getD []).length<=Most
mutual
def okF(al:Bool)(v:Int):Fl->T->Prop
 | .mk k _ _ nl _ _ of sub,t=>if k=11 then t.L.length<=Most/\(t.null=true->(0<=nl/\nl<=v)∨(al=false/\t.L=[])) /\ ∀y∈t.L,okV v of (-1) y/\(of=10->okS al v sub y) else okV v k nl t/\(k=10->okS al v sub t)/\(k=10->0<=nl->t.null=true->nl<=v)
def okS(al:Bool)(v:Int):Option (List Fl)->T->Prop
 | none,t=>zRB t.U
 | some l,t=>zRB t.U/\okL al v l 0 t
def okL(al:Bool)(v:Int):List Fl->Nat->T->Prop
 | [],_,_=>True
 | f::r,i,t=>((al=true∨(f.tag<0/\has f v=true))->okF al v f (at' t i))/\okL al v r (i+1) t
end
def wfTg(x:Tg):Bool:=decide (0<=x.key)&&decide (x.key<4294967296)
mutual
def wfT:T->Bool
 | .mk n _ _ l u=>(Lit.int .i64 n).wf&&wfTo l&&(u.getD []).all wfTg
def wfTo:Option (List T)->Bool
 | none=>true
 | some l=>wfTl l
def wfTl:List T->Bool
 | []=>true
 | t::r=>wfT t&&wfTl r
end
def xHG(m:Msg)(v dd sd:D):Prop :=
 (0<=v.asInt/\v.asInt<=m.most) /\ ∃t:T,wfT t=true/\okS false v.asInt m.fs t/\sd.asStr=yPA m.fs v.asInt (zRA m.fx v.asInt) t/\dd.asStr.length+sd.asStr.length+16<=1099511627776
def M144:Msg:=⟨true,false,some [.mk 3 3 (-1) (-1) (-1) (-2) 0 none,.mk 11 0 (-1) (-1) (-1) 0 10 (some [.mk 8 0 (-1) (-1) (-1) 0 0 none,.mk 11 0 (-1) (-1) (-1) 0 10 (some [.mk 3 0 (-1) (-1) (-1) 0 0 none,.mk 3 2 (-1) (-1) (-1) (-1) 0 none,.mk 3 0 (-1) (-1) (-1) 0 0 none])])],4,4⟩
def M146:Msg:=⟨true,false,some [.mk 8 0 (-1) (-1) (-1) 0 0 none,.mk 3 1 (-1) (-1) (-1) (-1) 0 none,.mk 8 1 (-1) (-1) (-1) 0 0 none,.mk 8 7 (-1) 7 (-1) 0 0 none,.mk 4 2 4 (-1) (-1) (-1) 0 none,.mk 11 0 (-1) (-1) (-1) 0 10 (some [.mk 8 0 9 (-1) (-1) 0 0 none,.mk 7 10 (-1) (-1) (-1) 0 0 none,.mk 11 0 (-1) (-1) (-1) 0 10 (some [.mk 3 0 (-1) (-1) (-1) 0 0 none,.mk 4 0 (-1) (-1) (-1) 0 0 none,.mk 4 1 1 (-1) (-1) (-1) 0 none,.mk 3 6 (-1) (-1) (-1) (-1) 0 none,.mk 8 0 (-1) 0 (-1) 0 0 none])])],8,10⟩
def M147:Msg:=⟨true,false,some [.mk 8 0 (-1) (-1) (-1) 0 0 none,.mk 8 0 (-1) (-1) (-1) 0 0 none,.mk 4 0 (-1) (-1) (-1) 0 0 none,.mk 2 0 (-1) (-1) (-1) 0 0 none,.mk 3 3 (-1) (-1) (-1) (-1) 0 none,.mk 8 3 (-1) (-1) (-1) 0 0 none,.mk 8 3 (-1) 3 (-1) 0 0 none,.mk 11 0 (-1) (-1) (-1) 0 10 (some [.mk 8 0 5 (-1) (-1) 0 0 none,.mk 7 6 (-1) (-1) (-1) 0 0 none,.mk 11 0 (-1) (-1) (-1) 0 10 (some [.mk 3 0 (-1) (-1) (-1) 0 0 none,.mk 4 0 (-1) (-1) (-1) 0 0 none,.mk 3 2 (-1) (-1) (-1) (-1) 0 none,.mk 8 0 (-1) 0 (-1) 0 0 none])])],3,6⟩
end Go.Mx
namespace Go.Mx
open Go Go.Dx
def tDf(d:Int):T:=.mk d none true none none
def zVD(f:Fl)(v:Int):Bool:=decide (f.tag<0)&&has f v
theorem zEC{f:Fl}{v:Int}:zVD f v=true↔f.tag<0/\has f v=true:=by simp[zVD]
def zQH(x:Bool)(u:List Tg):Option (List Tg):=if x then some (u.map fun y=>⟨y.key,some (y.val.getD [])⟩) else none
def dfT(f:Fl):T:=tDf f.dflt
mutual
def xND(v:Int)(x:Bool):Fl->T->T
 | .mk k _ _ nl _ _ of sub,t =>
  if k=11 then
   (if nl<0 then .mk 0 none (t.L.length==0) (some (t.L.map fun y=>if of=10 then yVB v x sub y else y)) none
   else .mk 0 none t.null (some (if t.null then [] else t.L.map fun y=>if of=10 then yVB v x sub y else y)) none)
  else t
def yVB(v:Int)(x:Bool):Option (List Fl)->T->T
 | none,t=>.mk 0 none false none (zQH x t.U)
 | some l,t=>.mk 0 none false (some (qDJ v x l 0 t)) (zQH x t.U)
def qDJ(v:Int)(x:Bool):List Fl->Nat->T->List T
 | [],_,_=>[]
 | f::r,i,t=>(if zVD f v then xND v x f (at' t i) else dfT f)::qDJ v x r (i+1) t
end
def tuT(tg:Bool)(u:List Tg):Option (List Tg):=if tg then nz (u.map fun x=>⟨x.key,nz (x.val.getD [])⟩) else none
def tvT(k nl:Int)(y:T):T :=
 if k=8 then (if nl<0 then .mk 0 (some y.S) false none none else .mk 0 (if y.null then none else some y.S) y.null none none) else
 if k=9 then .mk 0 (if y.null then none else nz y.S) y.null none none else
 if k=7 then .mk 0 (some (zOB y.S)) false none none else .mk (numK k y.n) none false none none
mutual
def tfT(tg:Bool):Fl->T->T
 | .mk k _ _ nl _ _ _ sub,y=>if k=11 then .mk 0 none y.null (if y.null then none else nz (y.L.map fun z=>tsT tg sub z)) none else tvT k nl y
def tsT(tg:Bool):Option (List Fl)->T->T
 | none,y=>.mk 0 none false (some []) (tuT tg y.U)
 | some l,y=>.mk 0 none false (some (tlT tg l 0 y)) (tuT tg y.U)
def tlT(tg:Bool):List Fl->Nat->T->List T
 | [],_,_=>[]
 | f::r,i,y=>tfT tg f (at' y i)::tlT tg r (i+1) y
end
def dfl:Fl->Bool
 | .mk k _ _ _ _ df _ _=>decide (df≠0)&&decide (k≠7)&&decide (k≠8)&&decide (k≠9)&&decide (k≠10)&&decide (k≠11)
def setL:List Fl->Nat->T->List T
 | [],_,_=>[]
 | f::r,i,y=>(if dfl f then dfT f else at' y i)::setL r (i+1) y
def setS:Option (List Fl)->T->T
 | none,y=>y
 | some l,y=>.mk 0 none false (some (setL l 0 y)) y.u
def SrcT(m:Msg)(v:Int)(s:List UInt8)(t:T):Prop:=wfT t=true/\okS false v m.fs t/\s=yPA m.fs v (zRA m.fx v) t
open Classical in
noncomputable def dX(m:Msg)(v sd:D):D :=
 if h:∃t,SrcT m v.asInt sd.asStr t then (tsT m.tg m.fs (setS m.fs (yVB v.asInt (zRA m.fx v.asInt) m.fs h.choose))).d else .nil
end Go.Mx
namespace Go.Mx
open Go Go.Dx
def insM(k:Int)(d:D):List (Int×D)->List (Int×D)
 | []=>[(k,d)]
 | x::r=>if x.1<k then x::insM k d r else if x.1=k then (k,d)::r else (k,d)::x::r
def mapL:D->List (Int×D)
 | .map l=>l
 | _=>[]
def u16D(s:List UInt8):List D:=(zOB s).map fun x=>.int x.toNat
def dV(k nl:Int)(t:T)(sub:List D):List D :=
 if k=0 then [.bool (decide (t.n%2=1))] else
 if k=1 then [.int (IntKind.i8.wrap t.n)] else
 if k=2 then [.int (IntKind.i16.wrap t.n)] else
 if k=3 then [.int (IntKind.i32.wrap t.n)] else
 if k=5 then [.int (IntKind.u16.wrap t.n)] else
 if k=7 then u16D t.S else
 if k=8 then (if nl<0 then [.str t.S] else [if t.null then .nil else .ptr (.str t.S)]) else
 if k=9 then [if t.null then .nil else .bytes t.S] else
 if k=10 then sub else [.int t.n]
def rowD(l:List D):D:=match l with|[a]=>a|l=>.row l
def elD(k:Int)(l:List D)(t:T):D:=if k=7 then .row (u16D t.S) else if k=10 then .row l else rowD l
def tagD(u:List Tg):D:=u.foldl (fun m x=>.map (insM x.key (encB x.val) (mapL m))) .nil
mutual
def dF(tg:Bool):Fl->T->List D
 | .mk k _ _ nl _ _ of sub,t =>
  if k=11 then [if t.null then .nil else .list (t.L.map fun y=>elD of (dV of (-1) y (dS tg sub y)) y)]
  else if k=10/\0<=nl then [if t.null then .nil else .ptr (.row (dS tg sub t))] else dV k nl t (dS tg sub t)
def dS(tg:Bool):Option (List Fl)->T->List D
 | none,t=>if tg then [tagD t.U] else []
 | some l,t=>dL tg l 0 t++(if tg then [tagD t.U] else [])
def dL(tg:Bool):List Fl->Nat->T->List D
 | [],_,_=>[]
 | f::r,i,t=>dF tg f (at' t i)++dL tg r (i+1) t
end
def S401:Option (List Fl):=some [.mk 11 0 (-1) (-1) (-1) 0 10 (some [.mk 7 0 (-1) (-1) (-1) 0 0 none,.mk 11 0 (-1) (-1) (-1) 0 3 none])]
def S402:Option (List Fl):=some [.mk 8 0 (-1) (-1) (-1) 0 0 none,.mk 3 0 (-1) (-1) (-1) 0 0 none]
def ptN(sub:Option (List Fl)):Nat:=400+(sub.getD []).length
def ptSub(n:Nat):Option (List Fl):=if n=401 then S401 else S402
def ptOk(sub:Option (List Fl)):Bool:=(ptN sub==401 || ptN sub==402)&&(encF sub).beq (encF (ptSub (ptN sub)))
def cellP(sub:Option (List Fl))(t:D):D:=if (toT t).null then .nil else .ptr (.row (dS true sub (toT t)))
def ptS(sub:Option (List Fl))(t:D):Prop:=(toT t).null=false -> ∃v,okS true v sub (toT t)
end Go.Mx
namespace Go.Mx
open Go Go.Dx
def encN(s:List UInt8):D:=match s with|[]=>.nil|s=>.bytes s
def app(o:D)(s:List UInt8):D:=.bytes (o.asStr++s)
def xAD(t:T):Bool:=decide (t.S.length<=2147483647)&&(decide (t.L.length<=2147483647)&&(decide (t.U.length<=2147483647)&&t.U.all fun x=>decide ((x.val.getD []).length<=2147483647)))
def rowBytes(d:D):List UInt8:=d.cells.map fun x=>UInt8.ofNat x.asInt.toNat
def beN(s:List UInt8):Nat:=s.foldl (fun a b=>a*256+b.toNat) 0
def uvD:List UInt8->Nat×Nat
 | []=>(0,0)
 | b::r=>if b.toNat<128 then (b.toNat,1) else (b.toNat-128+128*(uvD r).1,(uvD r).2+1)
def rI(k:IntKind)(n:Nat)(s:List UInt8):Int×List UInt8:=(k.wrap (beN (s.take n)),s.drop n)
def rUv(s:List UInt8):Nat×List UInt8:=((uvD s).1,s.drop (uvD s).2)
def rSp(l:Nat)(s:List UInt8):List UInt8×List UInt8:=(s.take l,s.drop l)
def rStr(s:List UInt8):List UInt8×List UInt8:=rSp (rI .i16 2 s).1.toNat (rI .i16 2 s).2
def ySD(s:List UInt8):List UInt8×List UInt8:=rSp ((rUv s).1-1) (rUv s).2
def qJE(s:List UInt8):Option (List UInt8)×List UInt8:=if (rI .i16 2 s).1<0 then (none,(rI .i16 2 s).2) else (some (rStr s).1,(rStr s).2)
def xZB(s:List UInt8):Option (List UInt8)×List UInt8:=if (rUv s).1=0 then (none,(rUv s).2) else (some (ySD s).1,(ySD s).2)
def rB4(s:List UInt8):List UInt8×List UInt8:=rSp (rI .i32 4 s).1.toNat (rI .i32 4 s).2
def rNB4(s:List UInt8):Option (List UInt8)×List UInt8:=if (rI .i32 4 s).1<0 then (none,(rI .i32 4 s).2) else (some (rB4 s).1,(rB4 s).2)
def rTag:Nat->List UInt8->D->D×List UInt8
 | 0,s,m=>(m,s)
 | n+1,s,m=>rTag n (rSp (rUv (rUv s).2).1 (rUv (rUv s).2).2).2 (.map (insM (rUv s).1 (.bytes (rSp (rUv (rUv s).2).1 (rUv (rUv s).2).2).1) (mapL m)))
def zRK(s:List UInt8):D×List UInt8:=rTag (rUv s).1 (rUv s).2 .nil
def rowR(v:D)(s:List UInt8):D:=.row [v,.bytes s,.bool false]
def ptrR:Option (List UInt8)->D
 | none=>.nil
 | some s=>.ptr (.str s)
def hdrB(key v num:Int)(has:Bool)(id:List UInt8)(x:Bool):List UInt8 :=
 zMA key 2++(zMA v 2++(zMA num 4++((if has then zMA id.length 2++id else zMA (-1) 2)++(if x then [0] else []))))
def frameB(key v num:Int)(has:Bool)(id:List UInt8)(x:Bool)(b:List UInt8):List UInt8 :=
 zMA ((hdrB key v num has id x++b).length:Nat) 4++(hdrB key v num has id x++b)
noncomputable def X:Nat->List D->D
 | 1,[t,i]=>(at' (toT t) i.asInt).d
 | 2,[o,b]=>app o [if b.asBool then 1 else 0]
 | 3,[o,n]=>app o (zMA n.asInt 1)
 | 4,[o,n]=>app o (zMA n.asInt 2)
 | 5,[o,n]=>app o (zMA n.asInt 2)
 | 6,[o,n]=>app o (zMA n.asInt 4)
 | 7,[o,n]=>app o (zMA n.asInt 8)
 | 8,[o,n]=>app o (zMA n.asNat 8)
 | 9,[o,r]=>app o (rowBytes r)
 | 10,[o,n]=>app o (zEA n.asInt.toNat)
 | 11,[o,s]=>app o (zMA s.len 2++s.asStr)
 | 12,[o,s]=>app o (zEA (s.len+1)++s.asStr)
 | 13,[o,p]=>app o (if p.isNil then zMA (-1) 2 else zMA p.deref.len 2++p.deref.asStr)
 | 14,[o,p]=>app o (if p.isNil then zEA 0 else zEA (p.deref.len+1)++p.deref.asStr)
 | 15,[o,s]=>app o (zMA s.len 4++s.asStr)
 | 16,[o,s]=>app o (zEA (s.len+1)++s.asStr)
 | 17,[o,s]=>app o (if s.isNil then zMA (-1) 4 else zMA s.len 4++s.asStr)
 | 18,[o,s]=>app o (if s.isNil then zEA 0 else zEA (s.len+1)++s.asStr)
 | 19,[o,n]=>app o (zMA n.asInt 4)
 | 20,[o,n]=>app o (zEA (n.asInt.toNat+1))
 | 21,[o,n,b]=>app o (if b.asBool then zMA (-1) 4 else zMA n.asInt 4)
 | 22,[o,n,b]=>app o (if b.asBool then zEA 0 else zEA (n.asInt.toNat+1))
 | 23,[m,k,v]=>.map (insM k.asInt v (mapL m))
 | 24,[m]=>.int (mapL m).length
 | 25,[m,o]=>if (mapL m).isEmpty then o else app o ((mapL m).map fun x=>tagB x.1.toNat x.2.asStr).flatten
 | 26,[t]=>if (toT t).null then .nil else .ptr (.str (toT t).S)
 | 27,[t]=>if (toT t).null then .nil else .bytes (toT t).S
 | 28,[b]=>.row ((zOB b.asStr).map fun x=>.int x.toNat)
 | 29,[o,n]=>app o (zMA n.asInt 8)
 | 30,[o,n]=>app o (zMA n.asInt 4)
 | 31,[n]=>.int (zEA n.asInt.toNat).length
 | 40,[t,i]=>(at' (toT t) i.asInt).d
 | 41,[fs,u]=>encU (nz (zTA ((decF fs).getD []) (decU u)))
 | 42,[f,v,t]=>(yBB (toF f) v.asInt (toT t)).d
 | 43,[fs,v,t]=>(FitS (decF fs) v.asInt (toT t)).d
 | 44,[t]=>(given (toT t)).d
 | 45,[n,s]=>encN (zMA n.asInt s.asInt.toNat)
 | 46,[n]=>encN (zEA n.asInt.toNat)
 | 47,[fs,v,x,t]=>encN (yPA (decF fs) v.asInt x.asBool (toT t))
 | 48,[k,fs,b,v,x,t]=>encN (yZA k.asInt b.asBool x.asBool (toT t) (yPA (decF fs) v.asInt x.asBool (toT t)))
 | 49,[f,v,x,t]=>encN (field (toF f) v.asInt x.asBool (toT t))
 | 50,[f,t]=>.bool (qSA (toF f) (toT t))
 | 51,[fs]=>.int (qBA ((decF fs).getD []))
 | 52,[a,b]=>.bool (a.asStr==b.asStr)
 | 53,[x,b,n,s]=>encN (counted x.asBool b.asBool n.asInt.toNat s.asInt.toNat)
 | 54,[t]=>.bool (xAD (toT t))
 | 55,[k]=>.int (yUD k.asInt)
 | 56,[f,v,t]=>.bool (Mx.null (toF f) v.asInt (toT t))
 | 57,[f,v]=>.bool (has (toF f) v.asInt)
 | 58,[n,m]=>.int (n.asInt%(m.asInt+1))
 | 59,[.row [fs,fx],v,t]=>encN (yPA (decF fs) v.asInt (zRA fx.asInt v.asInt) (toT t))
 | 60,[.row [fs,fx],v,t]=>encN (zMA v.asInt 2++yPA (decF fs) v.asInt (zRA fx.asInt v.asInt) (toT t))
 | 61,[s]=>rowR (.bool (beN (s.asStr.take 1) != 0)) (s.asStr.drop 1)
 | 62,[s]=>rowR (.int (rI .i8 1 s.asStr).1) (rI .i8 1 s.asStr).2
 | 63,[s]=>rowR (.int (rI .i16 2 s.asStr).1) (rI .i16 2 s.asStr).2
 | 64,[s]=>rowR (.int (rI .u16 2 s.asStr).1) (rI .u16 2 s.asStr).2
 | 65,[s]=>rowR (.int (rI .i32 4 s.asStr).1) (rI .i32 4 s.asStr).2
 | 66,[s]=>rowR (.int (rI .i64 8 s.asStr).1) (rI .i64 8 s.asStr).2
 | 67,[s]=>rowR (.row ((s.asStr.take 16).map fun x=>.int x.toNat)) (s.asStr.drop 16)
 | 68,[s]=>rowR (.int (rI .u32 4 s.asStr).1) (rI .u32 4 s.asStr).2
 | 69,[s]=>rowR (.int (rI .u64 8 s.asStr).1) (rI .u64 8 s.asStr).2
 | 70,[s]=>rowR (.int (rUv s.asStr).1) (rUv s.asStr).2
 | 71,[s,l]=>rowR (.bytes (rSp l.asInt.toNat s.asStr).1) (rSp l.asInt.toNat s.asStr).2
 | 72,[s]=>rowR (.str (rStr s.asStr).1) (rStr s.asStr).2
 | 73,[s]=>rowR (.str (ySD s.asStr).1) (ySD s.asStr).2
 | 74,[s]=>rowR (ptrR (qJE s.asStr).1) (qJE s.asStr).2
 | 75,[s]=>rowR (ptrR (xZB s.asStr).1) (xZB s.asStr).2
 | 76,[s]=>rowR (.bytes (rB4 s.asStr).1) (rB4 s.asStr).2
 | 77,[s]=>rowR (.bytes (ySD s.asStr).1) (ySD s.asStr).2
 | 78,[s]=>rowR (encB (rNB4 s.asStr).1) (rNB4 s.asStr).2
 | 79,[s]=>rowR (encB (xZB s.asStr).1) (xZB s.asStr).2
 | 80,[s]=>rowR (.int (rI .i32 4 s.asStr).1) (rI .i32 4 s.asStr).2
 | 81,[s]=>rowR (.int ((rUv s.asStr).1-1:Int)) (rUv s.asStr).2
 | 82,[s]=>rowR (.row [(zRK s.asStr).1]) (zRK s.asStr).2
 | 86,[_,s]=>.int (beN (s.asStr.take 8))
 | 87,[_,s]=>.int (beN (s.asStr.take 4))
 | 100,[_,t]=>app .nil (zMA (at' (toT t) 0).S.length 2++(at' (toT t) 0).S)
 | 144,[v,sd]=>dX M144 v sd
 | 146,[v,sd]=>dX M146 v sd
 | 147,[v,sd]=>dX M147 v sd
 | 300,[m,u]=>if (mapL m).isEmpty then u else u.appd (.list ((mapL m).map fun x=>.row [.int x.1,D.appd .nil x.2]))
 | 303,[fs,v,x,t,g]=>.bool (qKE (decF fs) v.asInt x.asBool (toT t) (toT g))
 | 304,[f,v,x,t,g]=>.bool (zEH (toF f) v.asInt x.asBool (toT t) (toT g))
 | 305,[fs,g]=>.bool (usS (decF fs) (toT g))
 | 306,[k,n]=>.int (numK k.asInt n.asInt)
 | 307,[fs,g]=>.bool (defL ((decF fs).getD []) 0 (toT g))
 | 308,[a,b]=>.bool (sameT (toT a) (toT b))
 | 401,[t]=>cellP S401 t
 | 402,[t]=>cellP S402 t
 | 309,[k,v,n,h,i,x,b]=>.bytes (frameB k.asInt v.asInt n.asInt h.asBool i.asStr x.asBool b.asStr)
 | 200,_=>.bool true
 | _,_=>.nil
theorem X_200(l:List D):X 200 l = .bool true:=by cases l with|nil=>rfl|cons a l=>cases l with|nil=>rfl|cons b l=>cases l with|nil=>rfl|cons c l=>rfl
theorem X_300(m u:D):X 300 [m,u]=if (mapL m).isEmpty then u else u.appd (.list ((mapL m).map fun x=>.row [.int x.1,D.appd .nil x.2])):=rfl
theorem X_303(fs v x t g:D):X 303 [fs,v,x,t,g] = .bool (qKE (decF fs) v.asInt x.asBool (toT t) (toT g)):=rfl
theorem X_304(f v x t g:D):X 304 [f,v,x,t,g] = .bool (zEH (toF f) v.asInt x.asBool (toT t) (toT g)):=rfl
theorem X_305(fs g:D):X 305 [fs,g] = .bool (usS (decF fs) (toT g)):=rfl
theorem X_306(k n:D):X 306 [k,n] = .int (numK k.asInt n.asInt):=rfl
theorem X_307(fs g:D):X 307 [fs,g] = .bool (defL ((decF fs).getD []) 0 (toT g)):=rfl
theorem X_2(o b:D):X 2 [o,b]=app o [if b.asBool then 1 else 0]:=rfl
theorem X_3(o n:D):X 3 [o,n]=app o (zMA n.asInt 1):=rfl
theorem X_4(o n:D):X 4 [o,n]=app o (zMA n.asInt 2):=rfl
theorem X_5(o n:D):X 5 [o,n]=app o (zMA n.asInt 2):=rfl
theorem X_6(o n:D):X 6 [o,n]=app o (zMA n.asInt 4):=rfl
theorem X_7(o n:D):X 7 [o,n]=app o (zMA n.asInt 8):=rfl
theorem X_10(o n:D):X 10 [o,n]=app o (zEA n.asInt.toNat):=rfl
theorem X_11(o s:D):X 11 [o,s]=app o (zMA s.len 2++s.asStr):=rfl
theorem X_12(o s:D):X 12 [o,s]=app o (zEA (s.len+1)++s.asStr):=rfl
theorem X_13(o p:D):X 13 [o,p]=app o (if p.isNil then zMA (-1) 2 else zMA p.deref.len 2++p.deref.asStr):=rfl
theorem X_14(o p:D):X 14 [o,p]=app o (if p.isNil then zEA 0 else zEA (p.deref.len+1)++p.deref.asStr):=rfl
theorem X_15(o s:D):X 15 [o,s]=app o (zMA s.len 4++s.asStr):=rfl
theorem X_17(o s:D):X 17 [o,s]=app o (if s.isNil then zMA (-1) 4 else zMA s.len 4++s.asStr):=rfl
theorem X_19(o n:D):X 19 [o,n]=app o (zMA n.asInt 4):=rfl
theorem X_20(o n:D):X 20 [o,n]=app o (zEA (n.asInt.toNat+1)):=rfl
theorem X_21(o n b:D):X 21 [o,n,b]=app o (if b.asBool then zMA (-1) 4 else zMA n.asInt 4):=rfl
theorem X_22(o n b:D):X 22 [o,n,b]=app o (if b.asBool then zEA 0 else zEA (n.asInt.toNat+1)):=rfl
theorem X_23(m k v:D):X 23 [m,k,v] = .map (insM k.asInt v (mapL m)):=rfl
theorem X_29(o n:D):X 29 [o,n]=app o (zMA n.asInt 8):=rfl
theorem X_30(o n:D):X 30 [o,n]=app o (zMA n.asInt 4):=rfl
theorem X_31(n:D):X 31 [n] = .int (zEA n.asInt.toNat).length:=rfl
theorem X_40(t i:D):X 40 [t,i]=(at' (toT t) i.asInt).d:=rfl
theorem X_41(fs u:D):X 41 [fs,u]=encU (nz (zTA ((decF fs).getD []) (decU u))):=rfl
theorem X_44(t:D):X 44 [t]=(given (toT t)).d:=rfl
theorem X_45(n s:D):X 45 [n,s]=encN (zMA n.asInt s.asInt.toNat):=rfl
theorem X_46(n:D):X 46 [n]=encN (zEA n.asInt.toNat):=rfl
theorem X_47(fs v x t:D):X 47 [fs,v,x,t]=encN (yPA (decF fs) v.asInt x.asBool (toT t)):=rfl
theorem X_48(k fs b v x t:D):X 48 [k,fs,b,v,x,t]=encN (yZA k.asInt b.asBool x.asBool (toT t) (yPA (decF fs) v.asInt x.asBool (toT t))):=rfl
theorem X_49(f v x t:D):X 49 [f,v,x,t]=encN (field (toF f) v.asInt x.asBool (toT t)):=rfl
theorem X_50(f t:D):X 50 [f,t] = .bool (qSA (toF f) (toT t)):=rfl
theorem X_51(fs:D):X 51 [fs] = .int (qBA ((decF fs).getD [])):=rfl
theorem X_52(a b:D):X 52 [a,b] = .bool (a.asStr==b.asStr):=rfl
theorem X_53(x b n s:D):X 53 [x,b,n,s]=encN (counted x.asBool b.asBool n.asInt.toNat s.asInt.toNat):=rfl
theorem X_54(t:D):X 54 [t] = .bool (xAD (toT t)):=rfl
theorem X_55(k:D):X 55 [k] = .int (yUD k.asInt):=rfl
theorem X_56(f v t:D):X 56 [f,v,t] = .bool (Mx.null (toF f) v.asInt (toT t)):=rfl
theorem X_57(f v:D):X 57 [f,v] = .bool (has (toF f) v.asInt):=rfl
theorem X_58(n m:D):X 58 [n,m] = .int (n.asInt%(m.asInt+1)):=rfl
theorem X_59(fs fx v t:D):X 59 [.row [fs,fx],v,t]=encN (yPA (decF fs) v.asInt (zRA fx.asInt v.asInt) (toT t)):=rfl
theorem X_61(s:D):X 61 [s]=rowR (.bool (beN (s.asStr.take 1) != 0)) (s.asStr.drop 1):=rfl
theorem X_62(s:D):X 62 [s]=rowR (.int (rI .i8 1 s.asStr).1) (rI .i8 1 s.asStr).2:=rfl
theorem X_63(s:D):X 63 [s]=rowR (.int (rI .i16 2 s.asStr).1) (rI .i16 2 s.asStr).2:=rfl
theorem X_64(s:D):X 64 [s]=rowR (.int (rI .u16 2 s.asStr).1) (rI .u16 2 s.asStr).2:=rfl
theorem X_65(s:D):X 65 [s]=rowR (.int (rI .i32 4 s.asStr).1) (rI .i32 4 s.asStr).2:=rfl
theorem X_66(s:D):X 66 [s]=rowR (.int (rI .i64 8 s.asStr).1) (rI .i64 8 s.asStr).2:=rfl
theorem X_67(s:D):X 67 [s]=rowR (.row ((s.asStr.take 16).map fun x=>.int x.toNat)) (s.asStr.drop 16):=rfl
theorem X_69(s:D):X 69 [s]=rowR (.int (rI .u64 8 s.asStr).1) (rI .u64 8 s.asStr).2:=rfl
theorem X_70(s:D):X 70 [s]=rowR (.int (rUv s.asStr).1) (rUv s.asStr).2:=rfl
theorem X_71(s l:D):X 71 [s,l]=rowR (.bytes (rSp l.asInt.toNat s.asStr).1) (rSp l.asInt.toNat s.asStr).2:=rfl
theorem X_72(s:D):X 72 [s]=rowR (.str (rStr s.asStr).1) (rStr s.asStr).2:=rfl
theorem X_73(s:D):X 73 [s]=rowR (.str (ySD s.asStr).1) (ySD s.asStr).2:=rfl
theorem X_74(s:D):X 74 [s]=rowR (ptrR (qJE s.asStr).1) (qJE s.asStr).2:=rfl
theorem X_75(s:D):X 75 [s]=rowR (ptrR (xZB s.asStr).1) (xZB s.asStr).2:=rfl
theorem X_76(s:D):X 76 [s]=rowR (.bytes (rB4 s.asStr).1) (rB4 s.asStr).2:=rfl
theorem X_77(s:D):X 77 [s]=rowR (.bytes (ySD s.asStr).1) (ySD s.asStr).2:=rfl
theorem X_78(s:D):X 78 [s]=rowR (encB (rNB4 s.asStr).1) (rNB4 s.asStr).2:=rfl
theorem X_79(s:D):X 79 [s]=rowR (encB (xZB s.asStr).1) (xZB s.asStr).2:=rfl
theorem X_80(s:D):X 80 [s]=rowR (.int (rI .i32 4 s.asStr).1) (rI .i32 4 s.asStr).2:=rfl
theorem X_81(s:D):X 81 [s]=rowR (.int ((rUv s.asStr).1-1:Int)) (rUv s.asStr).2:=rfl
theorem X_82(s:D):X 82 [s]=rowR (.row [(zRK s.asStr).1]) (zRK s.asStr).2:=rfl
theorem X_86(z s:D):X 86 [z,s] = .int (beN (s.asStr.take 8)):=rfl
theorem X_87(z s:D):X 87 [z,s] = .int (beN (s.asStr.take 4)):=rfl
def xKA{A S:Type}(f:Nat->A->S->S):Nat->List A->S->S
 | _,[],s=>s
 | i,a::r,s=>xKA f (i+1) r (f i a s)
theorem xUD{A S:Type}(f:A->S->S):∀(l:List A) (i:Nat) (s:S),xKA (fun _ a s=>f a s) i l s=l.foldl (fun s a=>f a s) s
 | [],_,_=>rfl
 | a::l,i,s=>by simp only[xKA,List.foldl];exact xUD f l (i+1) _
section
variable {Y:Nat->List D->D}
theorem zQA(k:IntKind)(a:Int):Fn.eval Y (.wrap k) [.int a] = .int (k.wrap a):=rfl
theorem yYD(k:IntKind)(a b:Int):Fn.eval Y (.add k) [.int a,.int b] = .int (k.wrap (a+b)):=rfl
theorem qXC(k:IntKind)(a b:Int):Fn.eval Y (.sub k) [.int a,.int b] = .int (k.wrap (a-b)):=rfl
theorem qZD(k:IntKind)(a b:Int):Fn.eval Y (.shr k) [.int a,.int b] = .int (shrI a b k):=rfl
theorem zQB(a b:Int):Fn.eval Y .eqI [.int a,.int b] = .bool (a==b):=rfl
theorem qWC(a b:Int):Fn.eval Y .neI [.int a,.int b] = .bool (a != b):=rfl
theorem qKA(a b:Int):Fn.eval Y .ltI [.int a,.int b] = .bool (decide (a<b)):=rfl
theorem qRB(a b:Int):Fn.eval Y .leI [.int a,.int b] = .bool (decide (a<=b)):=rfl
theorem yNC(a:Bool):Fn.eval Y .not [.bool a] = .bool (!a):=rfl
theorem zXA(c:Bool)(a b:D):Fn.eval Y .ite [.bool c,a,b]=if c then a else b:=rfl
theorem zPA(j:Nat)(a:D):Fn.eval Y (.get j) [a]=a.cells.getD j .nil:=rfl
theorem yAA(a:D):Fn.eval Y .len [a] = .int a.len:=rfl
theorem qQE(a:D):Fn.eval Y .isNil [a] = .bool a.isNil:=rfl
theorem qTA(l:List D):Fn.eval Y .mkrow l = .row l:=by cases l with|nil=>rfl|cons a l=>cases l with|nil=>rfl|cons b l=>cases l with|nil=>rfl|cons c l=>rfl
theorem yMC(l:List D):Fn.eval Y .mklist l = .list l:=by cases l with|nil=>rfl|cons a l=>cases l with|nil=>rfl|cons b l=>cases l with|nil=>rfl|cons c l=>rfl
theorem yVA(a b:D):Fn.eval Y .app [a,b]=a.appd b:=rfl
theorem zVF(a:D)(i:Int):Fn.eval Y .at [a,.int i]=a.rows.getD i.toNat .nil:=rfl
theorem xVB(a:D)(i:Int):Fn.eval Y .take [a,.int i]=a.takeD i.toNat:=rfl
theorem zOA(n:Nat)(l:List D):Fn.eval Y (.ext n) l=Y n l:=by cases l with|nil=>rfl|cons a l=>cases l with|nil=>rfl|cons b l=>cases l with|nil=>rfl|cons c l=>rfl
theorem qFA(a b:Int):Fn.eval Y .imin [.int a,.int b] = .int (min a b):=by
 show D.int (if b<a then b else a)=_;by_cases h:b<a
 ·rw[if_pos h];congr 1;omega
 ·rw[if_neg h];congr 1;omega
theorem fe_imax(a b:Int):Fn.eval Y .imax [.int a,.int b] = .int (max a b):=by
 show D.int (if b>a then b else a)=_;by_cases h:b>a
 ·rw[if_pos h];congr 1;omega
 ·rw[if_neg h];congr 1;omega
theorem ev_v(i:Nat)(J:List D):(DE.v i).eval Y J=J.getD i .nil:=rfl
theorem ev_k(d:D)(J:List D):(DE.k d).eval Y J=d:=rfl
theorem ev_f(n:Dx.Fn)(l:List DE)(J:List D):(DE.f n l).eval Y J=Fn.eval Y n (zDA Y l J):=rfl
theorem zBA(J:List D):zDA Y [] J=[]:=rfl
theorem zAA(a:DE)(l:List DE)(J:List D):zDA Y (a::l) J=a.eval Y J::zDA Y l J:=rfl
theorem zVA(b:Bool):(D.bool b).asBool=b:=rfl
theorem zNA(b:Int):(D.int b).asInt=b:=rfl
end
theorem xLB(a:List UInt8)(d:D)(h:d = .nil ∨ ∃s,d = .bytes s∨d = .str s):(encN a).appd d=encN (a++d.asStr):=by
 rcases h with rfl|⟨s,rfl|rfl⟩
 ·cases a <;> simp[encN,D.appd,D.asStr]
 ·cases a with
  | nil=>cases s <;> simp[encN,D.appd,D.asStr]
  | cons x a=>simp[encN,D.appd,D.asStr]
 ·cases a with
  | nil=>cases s <;> simp[encN,D.appd,D.asStr]
  | cons x a=>simp[encN,D.appd,D.asStr]
theorem zZD(a:List UInt8):(encN a).asStr=a:=by cases a <;> rfl
theorem qOA(a:Option (List UInt8)):(encB a).asStr=a.getD []:=by cases a <;> rfl
theorem yWA(a:Option (List UInt8)):(encB a).len=(a.getD []).length:=by cases a <;> rfl
theorem xQA(a:List UInt8):(encN a).len=a.length:=by cases a <;> rfl
theorem xXA(a:Option (List T)):(encT a).len=(a.getD []).length:=by cases a <;> simp[encT,D.len,yBC]
theorem xIA(a:Option (List Tg)):(encU a).len=(a.getD []).length:=by cases a <;> simp[encU,D.len]
theorem zPD(a:Option (List T)):(encT a).rows=(a.getD []).map T.d:=by cases a <;> simp[encT,D.rows,yBC]
theorem qZB(a:Option (List Tg)):(encU a).rows=(a.getD []).map Tg.d:=by cases a <;> simp[encU,D.rows]
theorem qYB(a:Option (List Fl)):(encF a).rows=(a.getD []).map Fl.d:=by cases a <;> simp[encF,D.rows,xSG]
theorem xQF(a:Option (List UInt8)):(encB a).rows=(a.getD []).map (fun x=>D.int x.toNat):=by cases a <;> rfl
theorem yBA(t:T):t.d.cells=[.int t.n,encB t.s,.bool t.null,encT t.l,encU t.u]:=by cases t;simp[T.d,D.cells,T.n,T.s,T.null,T.l,T.u]
theorem zUB(t:Tg):t.d.cells=[.int t.key,encB t.val]:=rfl
theorem yKA(f:Fl):f.d.cells=[.int f.kind,.int f.frm,.int f.to,.int f.null,.int f.tag,.int f.dflt,.int f.of,encF f.sub]:=by cases f;simp[Fl.d,D.cells,Fl.kind,Fl.frm,Fl.to,Fl.null,Fl.tag,Fl.dflt,Fl.of,Fl.sub]
theorem yEK(a:Option (List UInt8))(n:Nat):(encB a).takeD n=encB (a.map (·.take n)):=by cases a <;> rfl
theorem yFK(a:Option (List T))(n:Nat):(encT a).takeD n=encT (a.map (·.take n)):=by cases a <;> simp[encT,D.takeD,yBC]
theorem yGK(a:Option (List Tg))(n:Nat):(encU a).takeD n=encU (a.map (·.take n)):=by cases a <;> simp[encU,D.takeD]
end Go.Mx
