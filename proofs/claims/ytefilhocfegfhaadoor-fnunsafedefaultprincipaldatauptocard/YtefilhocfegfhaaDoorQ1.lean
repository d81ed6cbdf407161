/- Part of a verified symbolic run of the program's code (no condition of its own). -/
import Derived.WalkKit
import Derived.ProofKit
import Derived.Orders
import Derived.Lib.AppendStr
import Derived.Laws.MakeOwn
set_option linter.unusedVariables false
set_option linter.unusedSimpArgs false
noncomputable section
namespace Go.Dx
open Go
theorem gzZ{α:Type _}{x d:α}{l:List α}:(x::l).getD 0 d=x:=List.getD_cons_zero
theorem gsZ{α:Type _}{x d:α}{l:List α}{n:Nat}:(x::l).getD (n+1) d=l.getD n d:=List.getD_cons_succ
theorem baZ(a b:Bool):((a&&b)=true)=(a=true/\b=true):=Bool.and_eq_true a b
theorem bfZ:(false=true)=False:=Bool.false_eq_true
theorem dtZ{p:Prop}[Decidable p]:(decide p=true)=p:=decide_eq_true_eq
inductive D where
 | int (n:Int)
 | bool (b:Bool)
 | str (s:List UInt8)
 | flt (n:Nat)
 | nil
 | bytes (s:List UInt8)
 | list (l:List D)
 | row (l:List D)
 | ptr (d:D)
 | map (l:List (Int×D))
 deriving Inhabited
structure Fr (M:Nat->Prop) (w w':World):Prop where
 os:w'.os=w.os
 tape:w'.tape=w.tape
 output:w'.output=w.output
 size:w.heap.size<=w'.heap.size
 block:∀k,k<w.heap.size -> ¬M k->w'.heap[k]? = w.heap[k]?
theorem Fr.refl(M:Nat->Prop)(w:World):Fr M w w:=⟨rfl,rfl,rfl,Nat.le_refl _,fun _ _ _=>rfl⟩
theorem Fr.trans{M M':Nat->Prop}{a b c:World}(h:Fr M a b)(k:Fr M' b c)(hM:∀x,x<a.heap.size->M' x->M x):Fr M a c :=
 ⟨k.os.trans h.os,k.tape.trans h.tape,k.output.trans h.output,Nat.le_trans h.size k.size,fun i hi hm =>
  (k.block i (Nat.lt_of_lt_of_le hi h.size) (fun e=>hm (hM i hi e))).trans (h.block i hi hm)⟩
theorem Fr.mono{M M':Nat->Prop}{w w':World}(h:Fr M w w')(hM:∀x,x<w.heap.size->M x->M' x):Fr M' w w' :=
 ⟨h.os,h.tape,h.output,h.size,fun k hk hm=>h.block k hk (fun e=>hm (hM k hk e))⟩
theorem Fr.alloc(M:Nat->Prop)(w:World)(o:Obj):Fr M w (w.alloc o) :=
 ⟨rfl,rfl,rfl,by simp,fun k hk _=>Go.RowKit.Below.heap_alloc w o k hk⟩
theorem Fr.drew(M:Nat->Prop)(w:World):Fr M w w.drew:=⟨rfl,rfl,rfl,Nat.le_refl _,fun _ _ _=>rfl⟩
theorem Fr.setCell{M:Nat->Prop}(w:World)(a:Addr)(v:Value)(h:M a.block):Fr M w (w.setCell a v) :=
 ⟨rfl,rfl,rfl,by simp,fun k _ hm=>heap_setCell_other w a k v (fun e=>hm (e▸h))⟩
theorem Fr.grown{M:Nat->Prop}{w w':World}{row:Option Nat}(h:w.grownBy w' row)(hM:∀k,row=some k->M k):Fr M w w' :=
 ⟨h.os,h.tape,h.output,h.size,fun k hk hm=>h.block k hk (fun e=>hm (hM k e.symm))⟩
def xQA(w:World)(b off:Nat)(vs:List Value):Prop:=∀j v,vs[j]? = some v->w.cell? ⟨b,off+j,none⟩=some v
theorem zQJ{w w':World}{b o:Nat}(h:w'.heap[b]? = w.heap[b]?):w'.cell? ⟨b,o,none⟩=w.cell? ⟨b,o,none⟩:=by
 simp[World.cell?,h]
theorem xQA.frame{w w':World}{b off:Nat}{vs:List Value}(h:xQA w b off vs)(hb:w'.heap[b]? = w.heap[b]?):xQA w' b off vs :=
 fun j v hj=>(zQJ hb).trans (h j v hj)
theorem xQA.part{w:World}{b off:Nat}{vs:List Value}(h:xQA w b off vs)(i n:Nat):xQA w b (off+i) ((vs.drop i).take n):=by
 intro j v hj;rw[List.getElem?_take] at hj;split at hj
 ·rw[List.getElem?_drop] at hj
  have:=h (i+j) v hj
  rwa [<- Nat.add_assoc] at this
 ·cases hj
def zGA:TypeDesc->Bool
 | .struct _=>true
 | .array _ _=>true
 | _=>false
def qIE(P:Program):Nat->TypeId->List TypeId
 | 0,t=>[t]
 | n+1,t =>
  match P.underlying t with
  | some (.struct fs)=>fs.toList.flatMap fun f=>qIE P n f.type
  | some (.array m e)=>(List.replicate m (qIE P n e)).flatten
  | _=>[t]
abbrev tys (P:Program) (t:TypeId):List TypeId:=qIE P 6 t
inductive Rep (P:Program) (ok:Nat->Prop) (w:World):TypeId->Value->D->Prop where
 | int {t k n} (hu:P.underlying t=some (.int k)) (h:(Lit.int k n).wf=true):Rep P ok w t (.int k n) (.int n)
 | bool {t b} (hu:P.underlying t=some .bool):Rep P ok w t (.bool b) (.bool b)
 | str {t} {s:ByteArray} (hu:P.underlying t=some .string) (h:s.size<=maxLen):Rep P ok w t (.string s) (.str s.data.toList)
 | flt {t n} (hu:P.underlying t=some (.float .f64)):Rep P ok w t (.float .f64 n) (.flt n)
 | snil {t e} (hu:P.underlying t=some (.slice e)):Rep P ok w t (.slice none 0 0) .nil
 | bytes {t e cap} {ad:Addr} {s:List UInt8} (hu:P.underlying t=some (.slice e)) (he:P.underlying e=some (.int .u8)) (hok:0<cap->ad.spot=none/\ok ad.block) (hcap:s.length<=cap) (hmax:cap<=maxLen)
   (hc:xQA w ad.block ad.off (s.map fun x=>.int .u8 x.toNat)):Rep P ok w t (.slice (some ad) s.length cap) (.bytes s)
 | list {t e cap} {ad:Addr} {i:TypeInfo} {vs:List Value} {ds:List D} (hu:P.underlying t=some (.slice e)) (he:P.underlying e≠some (.int .u8)) (hi:P.info? e=some i) (hok:0<cap->ad.spot=none/\ok ad.block)
   (hlen:vs.length=ds.length) (hcap:ds.length<=cap) (hmax:cap<=maxLen) (hsz:∀v∈vs,v.cells.size=i.size)
   (hc:∀(j:Nat) (v:Value),vs[j]? = some v->xQA w ad.block (ad.off+j*i.size) v.cells.toList)
   (hr:∀(j:Nat) (v:Value) (d:D),vs[j]? = some v->ds[j]? = some d->Rep P ok w e v d):Rep P ok w t (.slice (some ad) ds.length cap) (.list ds)
 | row {t d} {vs:List Value} {ds:List D} (hu:P.underlying t=some d) (hd:zGA d=true) (hlen:vs.length=(tys P t).length) (hlen':ds.length=(tys P t).length)
   (h1:∀v∈vs,v.cells = #[v])
   (hr:∀(j:Nat) (u:TypeId) (v:Value) (d:D),(tys P t)[j]? = some u->vs[j]? = some v->ds[j]? = some d->Rep P ok w u v d):Rep P ok w t (.agg vs.toArray) (.row ds)
 | pnil {t e} (hu:P.underlying t=some (.pointer e)):Rep P ok w t (.pointer none) .nil
 | ptr {t e b off} {v:Value} {d:D} (hu:P.underlying t=some (.pointer e)) (hok:ok b) (hc:xQA w b off v.cells.toList) (hr:Rep P ok w e v d):Rep P ok w t (.pointer (some ⟨b,off,none⟩)) (.ptr d)
 | mnil {t k e} (hu:P.underlying t=some (.map k e)):Rep P ok w t (.map none) .nil
 | map {t k e r clock} {es:Array MapEntry} {ds:List (Int×D)} (hu:P.underlying t=some (.map k e)) (hk:P.underlying k=some (.int .u32)) (hok:ok r)
   (hh:w.heap[r]? = some (.map es clock))
   (hkeys:(es.toList.map (·.key)).Perm (ds.map fun d=>Value.int .u32 d.1))
   (hkw:∀d∈ds,(Lit.int .u32 d.1).wf=true)
   (hs:(ds.map (·.1)).Pairwise (· < ·))
   (hborn:(es.toList.map (·.born)).Nodup) (hclock:∀x∈es.toList,x.born<clock)
   (hr:∀x∈es.toList,∀n d,x.key = .int .u32 n->(n,d)∈ds->Rep P ok w e x.val d):Rep P ok w t (.map (some r)) (.map ds)
theorem Rep.mono{P:Program}{ok ok':Nat->Prop}{w w':World}{t:TypeId}{v:Value}{d:D}(h:Rep P ok w t v d)
  (hok:∀b,ok b->ok' b) (hw:∀b,ok b->w'.heap[b]? = w.heap[b]?):Rep P ok' w' t v d:=by
 induction h with
 | int hu h=>exact .int hu h
 | bool hu=>exact .bool hu
 | str hu h=>exact .str hu h
 | flt hu=>exact .flt hu
 | snil hu=>exact .snil hu
 | bytes hu he hk hcap hmax hc =>
  refine .bytes hu he (fun h=>⟨(hk h).1,hok _ (hk h).2⟩) hcap hmax (fun j v hj=>?_);have h0:=(List.getElem?_eq_some_iff.1 hj).1;rw[List.length_map] at h0;exact hc.frame (hw _ (hk (by omega)).2) j v hj
 | list hu he hi hk hlen hcap hmax hsz hc _ ih =>
  refine .list hu he hi (fun h=>⟨(hk h).1,hok _ (hk h).2⟩) hlen hcap hmax hsz (fun j v hj=>(hc j v hj).frame (hw _ (hk ?_).2)) ih;have h0:=(List.getElem?_eq_some_iff.1 hj).1;omega
 | row hu hd hlen hlen' h1 _ ih=>exact .row hu hd hlen hlen' h1 ih
 | pnil hu=>exact .pnil hu
 | ptr hu hk hc _ ih=>exact .ptr hu (hok _ hk) (hc.frame (hw _ hk)) ih
 | mnil hu=>exact .mnil hu
 | map hu hk hr hh hkeys hkw hs hborn hclock _ ih=>exact .map hu hk (hok _ hr) ((hw _ hr).trans hh) hkeys hkw hs hborn hclock ih
end Go.Dx
namespace Go.Dx
open Go
inductive Fn where
 | wrap (k:IntKind)|add (k:IntKind)|sub (k:IntKind)|mul (k:IntKind)
 | band (k:IntKind)|bor (k:IntKind)|bxor (k:IntKind)
 | shl (k:IntKind)|shr (k:IntKind)
 | tquo (k:IntKind)|tmod
 | eqI|neI|ltI|leI
 | not|ite
 | get (j:Nat)|len|isNil
 | mkrow|mklist|mkbytes|app|mkptr|deref
 | toStr|toBytes|eqS|imin|imax
 | repl
 | at|take|drop|iota|iotaS
 | setAt|setCells (off:Nat)|copy|zeros
 | ext (n:Nat)
 deriving DecidableEq
def D.asInt:D->Int
 | .int n=>n
 | _=>0
def D.asBool:D->Bool
 | .bool b=>b
 | _=>false
def D.asStr:D->List UInt8
 | .str s=>s
 | .bytes s=>s
 | _=>[]
def D.asNat:D->Nat
 | .flt n=>n
 | _=>0
def D.cells:D->List D
 | .row l=>l
 | d=>[d]
def D.rows:D->List D
 | .list l=>l
 | .bytes s=>s.map fun x=>.int x.toNat
 | _=>[]
def D.len:D->Nat
 | .list l=>l.length
 | .bytes s=>s.length
 | .str s=>s.length
 | .map l=>l.length
 | _=>0
def D.isNil:D->Bool
 | .nil=>true
 | _=>false
def D.deref:D->D
 | .ptr d=>d
 | _=>.nil
def D.appd:D->D->D
 | .nil,.nil=>.nil
 | .nil,.bytes []=>.nil
 | .nil,.str []=>.nil
 | .nil,.list []=>.nil
 | .nil,.str s=>.bytes s
 | .nil,d=>d
 | .bytes a,.bytes b=>.bytes (a++b)
 | .bytes a,.str b=>.bytes (a++b)
 | .list a,.list b=>.list (a++b)
 | d,.bytes (x::s)=>.bytes (d.asStr++x::s)
 | d,_=>d
def D.takeD(n:Nat):D->D
 | .bytes s=>.bytes (s.take n)
 | .list l=>.list (l.take n)
 | .str s=>.str (s.take n)
 | d=>d
def D.dropD(n:Nat):D->D
 | .bytes s=>.bytes (s.drop n)
 | .list l=>.list (l.drop n)
 | .str s=>.str (s.drop n)
 | d=>d
def D.copyD:D->D->D
 | .bytes a,d=>.bytes (d.asStr.take a.length++a.drop d.asStr.length)
 | a,_=>a
def D.putCells(off:Nat)(xs:List D):D->D
 | .row l=>.row (l.take off++xs++l.drop (off+xs.length))
 | d=>d
def D.setAtD:D->Nat->D->D
 | .bytes s,n,x=>.bytes (s.set n (UInt8.ofNat x.asInt.toNat))
 | .list l,n,x=>.list (l.set n x)
 | d,_,_=>d
def D.setCellsD(off:Nat):D->Nat->D->D
 | .list l,n,x=>.list (l.set n ((l.getD n .nil).putCells off x.cells))
 | d,_,_=>d
def shrI(x:Int)(y:Int)(k:IntKind):Int:=x.fdiv (2 ^ (min y.toNat k.bits))
def shlI(x:Int)(y:Int)(k:IntKind):Int:=k.wrap (x*2 ^ (min y.toNat k.bits))
def Fn.eval(X:Nat->List D->D):Fn->List D->D
 | .wrap k,[a]=>.int (k.wrap a.asInt)
 | .add k,[a,b]=>.int (k.wrap (a.asInt+b.asInt))
 | .sub k,[a,b]=>.int (k.wrap (a.asInt-b.asInt))
 | .mul k,[a,b]=>.int (k.wrap (a.asInt*b.asInt))
 | .band k,[a,b]=>.int (k.wrap (BitVec.ofInt k.bits a.asInt &&& BitVec.ofInt k.bits b.asInt).toNat)
 | .bor k,[a,b]=>.int (k.wrap (BitVec.ofInt k.bits a.asInt ||| BitVec.ofInt k.bits b.asInt).toNat)
 | .bxor k,[a,b]=>.int (k.wrap (BitVec.ofInt k.bits a.asInt ^^^ BitVec.ofInt k.bits b.asInt).toNat)
 | .shl k,[a,b]=>.int (shlI a.asInt b.asInt k)
 | .shr k,[a,b]=>.int (shrI a.asInt b.asInt k)
 | .tquo k,[a,b]=>.int (k.wrap (a.asInt.tdiv b.asInt))
 | .tmod,[a,b]=>.int (a.asInt.tmod b.asInt)
 | .eqI,[a,b]=>.bool (a.asInt==b.asInt)
 | .neI,[a,b]=>.bool (a.asInt != b.asInt)
 | .ltI,[a,b]=>.bool (decide (a.asInt<b.asInt))
 | .leI,[a,b]=>.bool (decide (a.asInt<=b.asInt))
 | .not,[a]=>.bool (!a.asBool)
 | .ite,[c,a,b]=>if c.asBool then a else b
 | .get j,[a]=>a.cells.getD j .nil
 | .len,[a]=>.int a.len
 | .isNil,[a]=>.bool a.isNil
 | .mkrow,l=>.row l
 | .mklist,l=>.list l
 | .mkbytes,l=>.bytes (l.map fun d=>UInt8.ofNat d.asInt.toNat)
 | .app,[a,b]=>a.appd b
 | .mkptr,[a]=>.ptr a
 | .deref,[a]=>a.deref
 | .toStr,[a]=>.str a.asStr
 | .toBytes,[a]=>.bytes a.asStr
 | .eqS,[a,b]=>.bool (a.asStr==b.asStr)
 | .imin,[a,b]=>.int (if b.asInt<a.asInt then b.asInt else a.asInt)
 | .imax,[a,b]=>.int (if b.asInt>a.asInt then b.asInt else a.asInt)
 | .repl,[n,a]=>.list (List.replicate n.asInt.toNat a)
 | .at,[a,b]=>a.rows.getD b.asInt.toNat .nil
 | .take,[a,b]=>a.takeD b.asInt.toNat
 | .drop,[a,b]=>a.dropD b.asInt.toNat
 | .copy,[a,b]=>a.copyD b
 | .zeros,[n]=>.bytes (List.replicate n.asInt.toNat 0)
 | .setAt,[a,b,x]=>a.setAtD b.asInt.toNat x
 | .setCells off,[a,b,x]=>a.setCellsD off b.asInt.toNat x
 | .iotaS,[n]=>.list ((List.range (n.asInt.toNat+1)).map fun i=>.int (i:Nat))
 | .iota,[n]=>.list ((List.range n.asInt.toNat).map fun i=>.int (i:Nat))
 | .ext n,l=>X n l
 | _,_=>.nil
inductive DE where
 | v (i:Nat)
 | k (d:D)
 | f (n:Fn) (args:List DE)
 | fold (lv:Nat) (src:DE) (inits bodies:List DE) (j:Nat)
 | wh (lv:Nat) (go:DE) (inits bodies:List DE)
 deriving Inhabited
noncomputable def zFF(p:Nat->Prop):Nat:=Classical.epsilon fun n=>p n /\ ∀m,m<n -> ¬p m
theorem least_ex{p:Nat->Prop}:∀ {n:Nat},p n -> ∃m,p m /\ ∀k,k<m -> ¬p k:=by
 intro n
 induction n using Nat.strongRecOn with
 | ind n ih =>
  intro h;by_cases hm:∃m,m<n/\p m
  ·obtain⟨m,h1,h2⟩:=hm;exact ih m h1 h2
  ·exact⟨n,h,fun k hk e=>hm ⟨k,hk,e⟩⟩
theorem zGF{p:Nat->Prop}(h:∃n,p n):p (zFF p) /\ ∀m,m<zFF p -> ¬p m:=by
 obtain⟨n,hn⟩:=h;exact Classical.epsilon_spec (least_ex hn)
theorem yEK{p:Nat->Prop}{n:Nat}(h:p n)(hl:∀m,m<n -> ¬p m):zFF p=n:=by
 obtain⟨h1,h2⟩:=zGF ⟨n,h⟩;rcases Nat.lt_trichotomy (zFF p) n with h3|h3|h3
 ·exact absurd h1 (hl _ h3)
 ·exact h3
 ·exact absurd h (h2 _ h3)
def qGB(n:Nat):List D:=(List.range n).map fun i=>.int (i:Nat)
def zQA(step:Nat->D->List D->List D):Nat->List D->List D->List D
 | _,[],acc=>acc
 | i,r::rs,acc=>zQA step (i+1) rs (step i r acc)
mutual
noncomputable def DE.eval(X:Nat->List D->D):DE->List D->D
 | .v i,J=>J.getD i .nil
 | .k d,_=>d
 | .f n as,J=>n.eval X (zDA X as J)
 | .fold lv s is bs j,J=>(zQA (fun i r acc=>zDA X bs (J.take lv++(.int i::r::acc))) 0 (s.eval X J).rows (zDA X is J)).getD j .nil
 | .wh lv g is bs,J=>.int (zFF fun n=>(g.eval X (J.take lv++(.int n :: .int n::zQA (fun i r acc=>zDA X bs (J.take lv++(.int i::r::acc))) 0 (qGB n) (zDA X is J)))).asBool=false:Nat)
noncomputable def zDA(X:Nat->List D->D):List DE->List D->List D
 | [],_=>[]
 | a::as,J=>a.eval X J::zDA X as J
end
mutual
def D.beq:D->D->Bool
 | .int a,.int b=>a==b
 | .bool a,.bool b=>a==b
 | .str a,.str b=>a==b
 | .flt a,.flt b=>a==b
 | .nil,.nil=>true
 | .bytes a,.bytes b=>a==b
 | .list a,.list b=>beqs a b
 | .row a,.row b=>beqs a b
 | .ptr a,.ptr b=>D.beq a b
 | .map a,.map b=>beqm a b
 | _,_=>false
def beqs:List D->List D->Bool
 | [],[]=>true
 | a::as,b::bs=>D.beq a b&&beqs as bs
 | _,_=>false
def beqm:List (Int×D)->List (Int×D)->Bool
 | [],[]=>true
 | a::as,b::bs=>beqp a b&&beqm as bs
 | _,_=>false
def beqp:Int×D->Int×D->Bool
 | (a,x),(b,y)=>a==b&&D.beq x y
end
mutual
theorem D.beq_eq:∀ {a b:D},D.beq a b=true->a=b
 | .int a,b,h=>by cases b <;> simp_all [D.beq]
 | .bool a,b,h=>by cases b <;> simp_all [D.beq]
 | .str a,b,h=>by cases b <;> simp_all [D.beq]
 | .flt a,b,h=>by cases b <;> simp_all [D.beq]
 | .nil,b,h=>by cases b <;> simp_all [D.beq]
 | .bytes a,b,h=>by cases b <;> simp_all [D.beq]
 | .list a,b,h=>by
  cases b <;> simp only[D.beq,bfZ] at h
  rw[xIH h]
 | .row a,b,h=>by
  cases b <;> simp only[D.beq,bfZ] at h
  rw[xIH h]
 | .ptr a,b,h=>by
  cases b <;> simp only[D.beq,bfZ] at h
  rw[D.beq_eq h]
 | .map a,b,h=>by
  cases b <;> simp only[D.beq,bfZ] at h
  rw[qFJ h]
theorem xIH:∀ {a b:List D},beqs a b=true->a=b
 | [],b,h=>by cases b <;> simp_all [beqs]
 | x::xs,b,h=>by
  cases b with
  | nil=>simp[beqs] at h
  | cons y ys =>
   simp only[beqs,baZ] at h;rw[D.beq_eq h.1,xIH h.2]
theorem qFJ:∀ {a b:List (Int×D)},beqm a b=true->a=b
 | [],b,h=>by cases b <;> simp_all [beqm]
 | x::xs,b,h=>by
  cases b with
  | nil=>simp[beqm] at h
  | cons y ys =>
   simp only[beqm,baZ] at h;rw[beqp_eq h.1,qFJ h.2]
theorem beqp_eq:∀ {a b:Int×D},beqp a b=true->a=b
 | (a,x),(b,y),h=>by
  simp only[beqp,baZ,beq_iff_eq] at h;rw[h.1,D.beq_eq h.2]
end
mutual
def DE.beq:DE->DE->Bool
 | .v a,.v b=>a==b
 | .k a,.k b=>D.beq a b
 | .f m as,.f n bs=>decide (m=n)&&zRB as bs
 | .fold lv s is bs j,.fold lv' s' is' bs' j'=>lv==lv'&&DE.beq s s'&&zRB is is'&&zRB bs bs'&&j==j'
 | .wh lv g is bs,.wh lv' g' is' bs'=>lv==lv'&&DE.beq g g'&&zRB is is'&&zRB bs bs'
 | _,_=>false
def zRB:List DE->List DE->Bool
 | [],[]=>true
 | a::as,b::bs=>DE.beq a b&&zRB as bs
 | _,_=>false
end
mutual
theorem DE.beq_eq:∀ {a b:DE},DE.beq a b=true->a=b
 | .v a,b,h=>by cases b <;> simp_all [DE.beq]
 | .k a,b,h=>by
  cases b <;> simp only[DE.beq,bfZ] at h
  rw[D.beq_eq h]
 | .f m as,b,h=>by
  cases b <;> simp only[DE.beq,bfZ,baZ,dtZ] at h
  rw[h.1,xBA h.2]
 | .fold lv s is bs j,b,h=>by
  cases b <;> simp only[DE.beq,bfZ,baZ,beq_iff_eq] at h
  rw[h.1.1.1.1,DE.beq_eq h.1.1.1.2,xBA h.1.1.2,xBA h.1.2,h.2]
 | .wh lv g is bs,b,h=>by
  cases b <;> simp only[DE.beq,bfZ,baZ,beq_iff_eq] at h
  rw[h.1.1.1,DE.beq_eq h.1.1.2,xBA h.1.2,xBA h.2]
theorem xBA:∀ {a b:List DE},zRB a b=true->a=b
 | [],b,h=>by cases b <;> simp_all [zRB]
 | x::xs,b,h=>by
  cases b with
  | nil=>simp[zRB] at h
  | cons y ys =>
   simp only[zRB,baZ] at h;rw[DE.beq_eq h.1,xBA h.2]
end
inductive CV where
 | nilp|nils|nilm|nilI|nilF
 | fn (f:Nat)
 | glob (g:Nat)
 deriving DecidableEq
def CV.den:CV->Value
 | .nilp=>.pointer none
 | .nils=>.slice none 0 0
 | .nilm=>.map none
 | .nilI=>.nilIface
 | .nilF=>.nilFunc
 | .fn f=>.func (.func f) #[] #[]
 | .glob g=>.pointer (some ⟨g,0,none⟩)
inductive WK where
 | clo (f:Nat)
 | ifc (t:TypeId)
 | pre (k:Nat)
 | suf (k:Nat)
 deriving DecidableEq
def WK.den(l:List Value):WK->Value
 | .clo f=>.func (.func f) #[] l.toArray
 | .ifc t=>.iface t (l.getD 0 undef)
 | .pre k =>
  match l.getD 0 undef with
  | .slice a _ c=>.slice a k c
  | _=>.slice none 0 0
 | .suf k =>
  match l.getD 0 undef with
  | .slice a n c=>.slice (if c=k then a else a.map (fun x=>x.add k)) (n-k) (c-k)
  | _=>.slice none 0 0
inductive SV where
 | i (k:IntKind) (e:DE)
 | b (e:DE)
 | s (e:DE)
 | fl (e:DE)
 | c (c:CV)
 | x (n:Nat)
 | xc (n j:Nat)
 | agg (l:List SV)
 | oa (o off:Nat)
 | osl (o n:Nat)
 | ra (n off:Nat)
 | ea (n:Nat) (e:DE) (off sz:Nat)
 | tup (l:List SV)
 | w (k:WK) (l:List SV)
 deriving Inhabited
mutual
def SV.beq:SV->SV->Bool
 | .i k e,.i k' e'=>decide (k=k')&&e.beq e'
 | .b e,.b e'=>e.beq e'
 | .s e,.s e'=>e.beq e'
 | .fl e,.fl e'=>e.beq e'
 | .c a,.c b=>decide (a=b)
 | .x n,.x m=>n==m
 | .xc n j,.xc m l=>n==m&&j==l
 | .agg l,.agg m=>qZD l m
 | .oa o k,.oa p l=>o==p&&k==l
 | .osl o n,.osl p m=>o==p&&n==m
 | .ra n k,.ra m l=>n==m&&k==l
 | .ea n e k z,.ea m f l y=>n==m&&e.beq f&&k==l&&z==y
 | .tup l,.tup m=>qZD l m
 | .w k l,.w k' m=>decide (k=k')&&qZD l m
 | _,_=>false
def qZD:List SV->List SV->Bool
 | [],[]=>true
 | a::as,b::bs=>SV.beq a b&&qZD as bs
 | _,_=>false
end
mutual
theorem SV.beq_eq:∀ {a b:SV},SV.beq a b=true->a=b
 | .i k e,b,h=>by
  cases b <;> simp only[SV.beq,bfZ,baZ,dtZ] at h
  rw[h.1,DE.beq_eq h.2]
 | .b e,b,h=>by
  cases b <;> simp only[SV.beq,bfZ] at h
  rw[DE.beq_eq h]
 | .s e,b,h=>by
  cases b <;> simp only[SV.beq,bfZ] at h
  rw[DE.beq_eq h]
 | .fl e,b,h=>by
  cases b <;> simp only[SV.beq,bfZ] at h
  rw[DE.beq_eq h]
 | .c a,b,h=>by cases b <;> simp_all [SV.beq]
 | .x n,b,h=>by cases b <;> simp_all [SV.beq]
 | .xc n j,b,h=>by cases b <;> simp_all [SV.beq]
 | .agg l,b,h=>by
  cases b <;> simp only[SV.beq,bfZ] at h
  rw[zBD h]
 | .oa o k,b,h=>by cases b <;> simp_all [SV.beq]
 | .osl o k,b,h=>by cases b <;> simp_all [SV.beq]
 | .ra n k,b,h=>by cases b <;> simp_all [SV.beq]
 | .ea n e k z,b,h=>by
  cases b <;> simp only[SV.beq,bfZ,baZ,beq_iff_eq] at h
  rw[h.1.1.1,DE.beq_eq h.1.1.2,h.1.2,h.2]
 | .tup l,b,h=>by
  cases b <;> simp only[SV.beq,bfZ] at h
  rw[zBD h]
 | .w k l,b,h=>by
  cases b <;> simp only[SV.beq,bfZ,baZ,dtZ] at h
  rw[h.1,zBD h.2]
theorem zBD:∀ {a b:List SV},qZD a b=true->a=b
 | [],b,h=>by cases b <;> simp_all [qZD]
 | x::xs,b,h=>by
  cases b with
  | nil=>simp[qZD] at h
  | cons y ys =>
   simp only[qZD,baZ] at h;rw[SV.beq_eq h.1,zBD h.2]
end
inductive VT where
 | set (t:TypeId)
 | row (t:TypeId)
 | own (t:TypeId)
 | tags (t:TypeId)
 | dead
 | gi
 deriving DecidableEq
structure VI where
 vt:VT
 de:DE
inductive Ob where
 | room (d:DE) (bytes:Nat)
 | cap (d:DE) (bytes:Nat)
 | idx (e d:DE) (strict:Bool)
 | ge0 (e:DE)
 | nz (e:DE)
 | pre (n:Nat) (args:List DE)
 | all (src:DE) (inits bodies:List DE) (obs:List Ob)
 | term (lv:Nat) (go:DE) (inits bodies:List DE)
 | defn (n lv:Nat) (src:DE) (inits bodies:List DE)
 | when (c:DE) (b:Bool) (obs:List Ob)
structure Lp where
 row:Nat
 src:SV
 el:TypeId
 lvl:Nat
structure St where
 env:List (Nat×SV)
 vars:List (Nat×VI)
 objs:List (Nat×List SV)
 loops:List Lp
 obl:List Ob
 lvl:Nat
 nx:Nat
 nt:Nat
theorem nbeq{n m:Nat}:Nat.beq n m=(n==m):=by
 by_cases hk:n=m
 ·subst hk;simp
 ·rw[show (n==m)=false from by simpa using hk];cases h:Nat.beq n m with
  | false=>rfl
  | true=>exact absurd (Nat.eq_of_beq_eq_true h) hk
def lk{α:Type}(n:Nat)(l:List (Nat×α)):Option α :=
 @List.rec (Nat×α) (fun _=>Option α) none (fun p _ ih=>@Bool.rec (fun _=>Option α) ih (some p.2) (Nat.beq n p.1)) l
theorem yTA{α:Type}{n:Nat}:lk n ([]:List (Nat×α))=none:=rfl
theorem yLA{α:Type}{n m:Nat}{a:α}{r:List (Nat×α)}:lk n ((m,a)::r)=if n==m then some a else lk n r:=by
 show @Bool.rec (fun _=>Option α) (lk n r) (some a) (Nat.beq n m)=_;rw[nbeq];cases (n==m) <;> rfl
def del{α:Type}(n:Nat)(l:List (Nat×α)):List (Nat×α) :=
 @List.rec (Nat×α) (fun _=>List (Nat×α)) [] (fun p _ ih=>@Bool.rec (fun _=>List (Nat×α)) (p::ih) ih (Nat.beq n p.1)) l
theorem del_nil{α:Type}{n:Nat}:del n ([]:List (Nat×α))=[]:=rfl
theorem xNE{α:Type}{n m:Nat}{a:α}{r:List (Nat×α)}:del n ((m,a)::r)=if n==m then del n r else (m,a)::del n r:=by
 show @Bool.rec (fun _=>List (Nat×α)) ((m,a)::del n r) (del n r) (Nat.beq n m)=_;rw[nbeq];cases (n==m) <;> rfl
def upd{α:Type}(n:Nat)(a:α)(l:List (Nat×α)):List (Nat×α):=(n,a)::del n l
end Go.Dx
namespace Go.Dx
open Go
mutual
def SV.men(n:Nat):SV->Bool
 | .x m=>n==m
 | .xc m _=>n==m
 | .agg l=>mens n l
 | .ra m _=>n==m
 | .ea m _ _ _=>n==m
 | .tup l=>mens n l
 | .w _ l=>mens n l
 | _=>false
def mens(n:Nat):List SV->Bool
 | []=>false
 | a::as=>SV.men n a || mens n as
end
mutual
def SV.meno(n:Nat):SV->Bool
 | .oa m _=>n==m
 | .osl m _=>n==m
 | .agg l=>zOF n l
 | .tup l=>zOF n l
 | .w _ l=>zOF n l
 | _=>false
def zOF(n:Nat):List SV->Bool
 | []=>false
 | a::as=>SV.meno n a || zOF n as
end
def St.freshV(st:St)(n:Nat):Bool :=
 (lk n st.vars).isNone&&st.env.all (fun p=>!p.2.men n)&&st.objs.all (fun p=>!mens n p.2)&&st.loops.all (fun l=>!(l.row==n) && !l.src.men n)
def St.freshO(st:St)(n:Nat):Bool :=
 (lk n st.objs).isNone&&st.env.all (fun p=>!p.2.meno n)&&st.objs.all (fun p=>!zOF n p.2)&&st.loops.all (fun l=>!l.src.meno n)
def qUB:TypeDesc->Bool
 | .int _ | .bool | .string | .float .f64=>true
 | _=>false
def mkf(n:Fn)(as:List DE):DE :=
 match n,as with
 | .wrap k,[.k (.int a)]=>.k (.int (k.wrap a))
 | .add k,[.k (.int a),.k (.int b)]=>.k (.int (k.wrap (a+b)))
 | .sub k,[.k (.int a),.k (.int b)]=>.k (.int (k.wrap (a-b)))
 | .eqI,[.k (.int a),.k (.int b)]=>.k (.bool (a==b))
 | .neI,[.k (.int a),.k (.int b)]=>.k (.bool (a != b))
 | .ltI,[.k (.int a),.k (.int b)]=>.k (.bool (decide (a<b)))
 | .ltI,[.k (.int a),.f .len [.k b]]=>.k (.bool (decide (a<b.len)))
 | .leI,[.k (.int a),.k (.int b)]=>.k (.bool (decide (a<=b)))
 | .not,[.k (.bool a)]=>.k (.bool (!a))
 | .isNil,[.k a]=>.k (.bool a.isNil)
 | .ite,[.k (.bool true),x,_]=>x
 | .ite,[.k (.bool false),_,x]=>x
 | .get j,[.f .mkrow l]=>l.getD j (.k .nil)
 | .get j,[.k (.row l)]=>.k (l.getD j .nil)
 | n,as=>.f n as
def qNJ(P:Program)(n j:Nat)(u:TypeId)(de:DE):SV :=
 match P.underlying u with
 | some (.int k)=>.i k (mkf (.get j) [de])
 | some .bool=>.b (mkf (.get j) [de])
 | some .string=>.s (mkf (.get j) [de])
 | some (.float .f64)=>.fl (mkf (.get j) [de])
 | _=>.xc n j
def zCD(P:Program)(n:Nat)(t:TypeId)(de:DE):SV :=
 match P.underlying t with
 | some (.int k)=>.i k de
 | some .bool=>.b de
 | some .string=>.s de
 | some (.float .f64)=>.fl de
 | _=>.x n
def zIE:Value->Option SV
 | .int k n=>if (Lit.int k n).wf then some (.i k (.k (.int n))) else none
 | .bool b=>some (.b (.k (.bool b)))
 | .string s=>if s.size<=1000000 then some (.s (.k (.str s.data.toList))) else none
 | .float .f64 n=>some (.fl (.k (.flt n)))
 | .pointer none=>some (.c .nilp)
 | .slice none 0 0=>some (.c .nils)
 | .map none=>some (.c .nilm)
 | .nilIface=>some (.c .nilI)
 | .nilFunc=>some (.c .nilF)
 | _=>none
def yME:List Value->Option (List SV)
 | []=>some []
 | v::vs=>do
  let a <- zIE v
  let as <- yME vs
  some (a::as)
def qRJ:Value->Option SV
 | .agg cs=>(yME cs.toList).map .agg
 | v=>zIE v
def opd(st:St):Operand->Option SV
 | .tmp t=>lk t st.env
 | .const v=>qRJ v
 | .global g=>some (.c (.glob g))
 | .func f=>some (.c (.fn f))
def opds(st:St):List Operand->Option (List SV)
 | []=>some []
 | o::os=>do
  let a <- opd st o
  let as <- opds st os
  some (a::as)
def zWD(n:Nat):Nat->List SV->Bool
 | _,[]=>true
 | j,.xc m l::r=>m==n&&l==j&&zWD n (j+1) r
 | _,_=>false
def VT.rest:VT->Option TypeId
 | .set t=>some t
 | .row t=>some t
 | _=>none
def norm(P:Program)(st:St):SV->SV
 | .xc n j =>
  match lk n st.vars with
  | some vi =>
   match vi.vt.rest with
   | some u =>
    match (tys P u)[j]? with
    | some ct=>qNJ P n j ct vi.de
    | none=>.xc n j
   | none=>.xc n j
  | none=>.xc n j
 | s=>s
mutual
def svT(P:Program)(st:St)(t:TypeId):SV->Option DE
 | .i k e =>
  match P.underlying t with
  | some (.int k')=>if k=k' then some e else none
  | _=>none
 | .b e =>
  match P.underlying t with
  | some .bool=>some e
  | _=>none
 | .s e =>
  match P.underlying t with
  | some .string=>some e
  | _=>none
 | .fl e =>
  match P.underlying t with
  | some (.float .f64)=>some e
  | _=>none
 | .c .nilp =>
  match P.underlying t with
  | some (.pointer _)=>some (.k .nil)
  | _=>none
 | .c .nils =>
  match P.underlying t with
  | some (.slice _)=>some (.k .nil)
  | _=>none
 | .c .nilm =>
  match P.underlying t with
  | some (.map _ _)=>some (.k .nil)
  | _=>none
 | .x n =>
  match lk n st.vars with
  | some vi=>if vi.vt.rest=some t then some vi.de else none
  | none=>none
 | .xc n j =>
  match lk n st.vars with
  | some vi =>
   match vi.vt.rest with
   | some u=>if (tys P u)[j]? = some t then some (mkf (.get j) [vi.de]) else none
   | none=>none
  | none=>none
 | .agg l =>
  match P.underlying t with
  | some d=>if zGA d then (svTs P st (tys P t) l).map (mkf .mkrow) else none
  | none=>none
 | _=>none
def svTs(P:Program)(st:St):List TypeId->List SV->Option (List DE)
 | [],[]=>some []
 | t::ts,a::as =>
  match P.underlying t with
  | some dt =>
   if zGA dt then none else
   match svT P st t a,svTs P st ts as with
   | some d,some ds=>some (d::ds)
   | _,_=>none
  | none=>none
 | _,_=>none
end
inductive Kd where
 | sl|pt|mp|sr
 deriving DecidableEq
def kdOf:TypeDesc->Option Kd
 | .slice _=>some .sl
 | .pointer _=>some .pt
 | .map _ _=>some .mp
 | .string=>some .sr
 | _=>none
def kdT(P:Program)(t:TypeId):Option Kd:=(P.underlying t).bind kdOf
def yNE(P:Program)(st:St):SV->Option (Kd×DE)
 | .c .nils=>some (.sl,.k .nil)
 | .c .nilm=>some (.mp,.k .nil)
 | .c .nilp=>some (.pt,.k .nil)
 | .s e=>some (.sr,e)
 | .x n =>
  match lk n st.vars with
  | some ⟨.set u,de⟩=>(kdT P u).map fun k=>(k,de)
  | some ⟨.row u,de⟩=>(kdT P u).map fun k=>(k,de)
  | some ⟨.own _,de⟩=>some (.sl,de)
  | some ⟨.tags _,de⟩=>some (.mp,de)
  | _=>none
 | .xc n j =>
  match lk n st.vars with
  | some vi =>
   match vi.vt.rest with
   | some u =>
    match (tys P u)[j]? with
    | some ct=>(kdT P ct).map fun k=>(k,mkf (.get j) [vi.de])
    | none=>none
   | none=>none
  | none=>none
 | _=>none
def deAny(P:Program)(st:St)(s:SV):Option DE:=(yNE P st s).map (·.2)
def settle1(st:St)(n:Nat):St :=
 match lk n st.vars with
 | some ⟨.own t,de⟩=>{ st with vars:=upd n ⟨.set t,de⟩ st.vars }
 | some ⟨.tags t,de⟩=>{ st with vars:=upd n ⟨.set t,de⟩ st.vars }
 | _=>st
mutual
def settle(st:St):SV->St
 | .x n=>settle1 st n
 | .agg l=>settles st l
 | _=>st
def settles(st:St):List SV->St
 | []=>st
 | a::as=>settles (settle st a) as
end
def oneS(P:Program)(st:St):SV->Bool
 | .agg _=>false
 | .tup _=>false
 | .x n =>
  match lk n st.vars with
  | some vi =>
   match vi.vt with
   | .set u=>match P.underlying u with|some du=>!zGA du|none=>false
   | .own _=>true
   | .tags _=>true
   | _=>false
  | none=>false
 | .xc n j =>
  match lk n st.vars with
  | some vi =>
   match vi.vt.rest with
   | some u =>
    match (tys P u)[j]? with
    | some ct=>match P.underlying ct with|some du=>!zGA du|none=>false
    | none=>false
   | none=>false
  | none=>false
 | _=>true
def flat(P:Program)(st:St)(t:TypeId)(s:SV):Option (List SV) :=
 match P.underlying t,P.info? t with
 | some d,some i =>
  if zGA d then
   match s with
   | .x n =>
    match lk n st.vars with
    | some vi =>
     if vi.vt.rest=some t/\(tys P t).length=i.size then
      if ((List.range i.size).map (SV.xc n)).all (oneS P st) then some ((List.range i.size).map (SV.xc n)) else none
     else none
    | none=>none
   | .agg l=>if l.length=i.size/\l.all (oneS P st) then some l else none
   | _=>none
  else if oneS P st s then some [s] else none
 | _,_=>none
def isArrD:TypeDesc->Bool
 | .array _ _=>true
 | _=>false
def yED(P:Program)(st:St)(t:TypeId)(l:List SV):Option SV :=
 match P.underlying t,P.info? t with
 | some d,some i =>
  if zGA d then
   if l.length=i.size then
    match l with
    | .xc n 0::_ =>
     match lk n st.vars with
     | some vi=>if vi.vt.rest=some t/\(tys P t).length=i.size/\zWD n 0 l=true/\isArrD d=false then some (.x n) else some (.agg l)
     | none=>some (.agg l)
    | _=>some (.agg l)
   else none
  else
   match l with
   | [s]=>some (norm P st s)
   | _=>none
 | _,_=>none
def xXD(P:Program)(t:TypeId):Option Nat :=
 match P.underlying t,P.info? t with
 | some d,some i=>if zGA d then some i.size else some 1
 | _,_=>none
def qMH(P:Program)(st:St)(t:TypeId)(a:SV):Option SV:=do
 let n <- xXD P t
 match a with
 | .oa o off =>
  let cs <- lk o st.objs
  yED P st t ((cs.drop off).take n)
 | .ra m off =>
  match lk m st.vars with
  | some ⟨.row u,_⟩ =>
   if off+n<=(tys P u).length then yED P st t ((List.range n).map fun j=>.xc m (off+j)) else none
  | _=>none
 | .c (.glob _)=>if n=0 then yED P st t [] else none
 | _=>none
def qTK(P:Program)(st:St)(t:TypeId)(a v:SV):Option St:=do
 let l <- flat P st t v
 let i <- P.info? t
 if l.length≠i.size then none
 match a with
 | .oa o off =>
  let cs <- lk o st.objs
  if off+l.length<=cs.length then some { st with objs:=upd o (cs.take off++l++cs.drop (off+l.length)) st.objs } else none
 | _=>none
def newO(st:St)(cells:List SV)(n:Nat):Option St :=
 if st.freshO n && !zOF n cells then some { st with objs:=(n,cells)::st.objs } else none
def newV(st:St)(vi:VI)(n:Nat):Option St :=
 if st.freshV n then some { st with vars:=(n,vi)::st.vars } else none
def xLE(P:Program)(t:TypeId):Option (List SV):=do
 let i <- P.info? t
 let z <- i.zero
 let l <- yME z.cells.toList
 if l.length=i.size then some l else none
def qCD(P:Program)(s:TypeId)(f:Nat):Option (Nat×TypeId):=do
 match P.underlying s with
 | some (.struct fs) =>
  let fd <- fs[f]?
  let i <- P.info? fd.type
  if i.size=0 then none else some (fd.offset,fd.type)
 | _=>none
def yLG(P:Program)(st:St)(place:Nat->Option (Nat×TypeId)):List SV->List (Nat×SV)->Option (List SV)
 | cs,[]=>some cs
 | cs,(i,v)::r=>do
  let (off,t) <- place i
  let l <- flat P st t v
  let ti <- P.info? t
  if l.length=ti.size/\off+l.length<=cs.length then yLG P st place (cs.take off++l++cs.drop (off+l.length)) r else none
def zGG(st:St):List (Nat×Operand)->Option (List (Nat×SV))
 | []=>some []
 | (i,o)::r=>do
  let a <- opd st o
  let as <- zGG st r
  some ((i,a)::as)
def isU8(P:Program)(e:TypeId):Bool :=
 match P.underlying e with
 | some (.int .u8)=>true
 | _=>false
def zLI(P:Program)(st:St)(e:TypeId)(size:Nat):Nat->List SV->Option (List DE)
 | 0,[]=>some []
 | 0,_=>none
 | n+1,cs=>do
  let v <- yED P st e (cs.take size)
  let d <- svT P st e v
  let ds <- zLI P st e size n (cs.drop size)
  some (d::ds)
inductive AK where
 | val (t:TypeId)
 | own (t:TypeId)
 | mcell (t m:TypeId)
 | wcell (t m:TypeId)
 | rd (t:TypeId) (m:Bool)
 | ccell (gs:List Nat) (off:Nat) (t:TypeId)
 deriving DecidableEq
inductive RK where
 | val (t:TypeId)
 | own (t:TypeId)
 | cell (m:TypeId)
 | unit
 | rd (t:TypeId) (m:Bool)
 | valK (t:TypeId) (k:Int)
 | valT (t:TypeId)
 | ownT (t:TypeId)
 | ccell (t:TypeId)
 | valB (t:TypeId)
 deriving DecidableEq
structure Ctr where
 args:List AK
 res:RK
 fn:Nat
 pre:Bool
inductive Pl where
 | slot (s:Nat)
 | cell (o j:Nat)
inductive HK where
 | int (k:IntKind)
 | bool
 | var (vt:VT)
abbrev Hint:=List (Pl×HK)×Nat
def lookH:List (Nat×Nat×Nat×Hint)->Nat->Nat->Nat->Option Hint
 | [],_,_,_=>none
 | (a,b,c,r)::l,x,y,z=>if a==x&&b==y&&c==z then some r else lookH l x y z
structure Cfg where
 P:Program
 ctr:FuncId->Option Ctr
 hint:Nat->Nat->Nat->Option Hint
def qZB(P:Program)(t:TypeId):Bool :=
 match P.underlying t with
 | some (.slice e)=>(P.info? e).isSome
 | _=>false
def xBG(P:Program)(t:TypeId):Bool :=
 match P.underlying t with
 | some (.map _ _)=>true
 | _=>false
def zKF(P:Program)(st:St)(m:TypeId):SV->Option DE
 | .c .nilm=>if xBG P m then some (.k .nil) else none
 | .x n =>
  match lk n st.vars with
  | some ⟨.tags u,de⟩=>if u=m then some de else none
  | some ⟨.set u,de⟩=>if u=m/\xBG P m then some de else none
  | _=>none
 | .xc n j =>
  match lk n st.vars with
  | some ⟨vt,de⟩ =>
   match vt.rest with
   | some u=>if (tys P u)[j]? = some m/\xBG P m then some (mkf (.get j) [de]) else none
   | none=>none
  | none=>none
 | _=>none
def rdSD(m:Bool)(d:D):D:=if m then d.cells.getD 1 .nil else d
def rdBD(m:Bool)(d:D):Bool:=m&&(d.cells.getD 2 .nil).asBool
def rdWf(m:Bool)(d:D):Prop:=m=true -> ∃b,d.cells.getD 2 .nil = .bool b
def pairE(d e:DE):DE :=
 match d,e with
 | .f (.get 1) [.f (.ext k) as],.f (.get 2) [q]=>if decide (k<1000000)&&(DE.f (.ext k) as).beq q then .f (.ext k) as else .f .mkrow [.k .nil,d,e]
 | _,_=>.f .mkrow [.k .nil,d,e]
def xNK(P:Program)(st:St)(t:TypeId)(m:Bool):List SV->Option DE
 | [x,.b e] =>
  match svT P st t x with
  | some d=>if m then some (pairE d e) else if e.beq (.k (.bool false)) then some d else none
  | none=>none
 | _=>none
def argD(P:Program)(st:St):AK->SV->Option DE
 | .val t,v=>svT P st t v
 | .own t,.c .nils=>if qZB P t then some (.k .nil) else none
 | .own t,.x n =>
  match lk n st.vars with
  | some ⟨.own u,de⟩=>if u=t then some de else none
  | _=>none
 | .own _,_=>none
 | .mcell _ m,.oa o off =>
  match lk o st.objs with
  | some cs =>
   match cs[off]? with
   | some c=>zKF P st m c
   | none=>none
  | none=>none
 | .mcell _ m,.ra n off =>
  match lk n st.vars with
  | some ⟨.row u,de⟩=>if (tys P u)[off]? = some m/\xBG P m then some (mkf (.get off) [de]) else none
  | _=>none
 | .mcell _ _,_=>none
 | .wcell _ m,.oa o off =>
  match lk o st.objs with
  | some cs =>
   match cs[off]? with
   | some (.c .nilm)=>if xBG P m then some (.k .nil) else none
   | some (.x n) =>
    match lk n st.vars with
    | some ⟨.tags u,de⟩=>if u=m then some de else none
    | _=>none
   | _=>none
  | none=>none
 | .wcell _ _,_=>none
 | .rd t m,.oa o off =>
  match lk o st.objs with
  | some cs=>if off=0/\qZB P t=true then xNK P st t m cs else none
  | none=>none
 | .rd _ _,_=>none
 | .ccell gs off t,.w (.clo f) [.oa o 0] =>
  match lk o st.objs with
  | some cs =>
   if gs.elem f&&cs.length==off+1 then
    match cs[off]? with
    | some (.c .nils)=>if qZB P t then some (.k .nil) else none
    | some (.x n) =>
     match lk n st.vars with
     | some ⟨.own u,de⟩=>if u=t then some de else none
     | _=>none
    | _=>none
   else none
  | none=>none
 | .ccell _ _ _,_=>none
def yKC(P:Program)(st:St):List AK->List SV->Option (List DE)
 | [],[]=>some []
 | k::ks,v::vs =>
  match argD P st k v,yKC P st ks vs with
  | some d,some ds=>some (d::ds)
  | _,_=>none
 | _,_=>none
def xRD:List AK->List SV->List SV
 | .val _::ks,v::vs=>v::xRD ks vs
 | _::ks,_::vs=>xRD ks vs
 | _,_=>[]
def yXA:List AK->List SV->List (AK×SV)
 | .own t::ks,v::vs=>(.own t,v)::yXA ks vs
 | .wcell t m::ks,v::vs=>(.wcell t m,v)::yXA ks vs
 | .rd t m::ks,v::vs=>(.rd t m,v)::yXA ks vs
 | .ccell gs off t::ks,v::vs=>(.ccell gs off t,v)::yXA ks vs
 | _::ks,_::vs=>yXA ks vs
 | _,_=>[]
def noMc:List AK->Bool
 | []=>true
 | .mcell _ _::_=>false
 | _::ks=>noMc ks
def qPH(o:Nat):List AK->List SV->Bool
 | .mcell _ _::ks,.oa p _::vs=>!(p==o)&&qPH o ks vs
 | _::ks,_::vs=>qPH o ks vs
 | _,_=>true
def yBJ(st:St)(n:Nat):St :=
 match lk n st.vars with
 | some vi=>{ st with vars:=upd n ⟨.dead,vi.de⟩ st.vars }
 | none=>st
def zVF(st:St):SV->St
 | .x m=>yBJ st m
 | _=>st
def zGC(st:St):Option SV->St
 | some (.x k)=>yBJ st k
 | _=>st
def yDF(st:St):List AK->List SV->List SV
 | .rd _ _::ks,.oa o _::vs=>(match lk o st.objs with|some (x::_)=>[x]|_=>[])++yDF st ks vs
 | _::ks,_::vs=>yDF st ks vs
 | _,_=>[]
def apart:Nat:=100000000000000000000000000000000000000000000000000
def xOK(P:Program)(t:TypeId)(de:DE)(n:Nat)(st:St):Option (SV×St) :=
 match P.underlying t with
 | some d =>
  if qUB d then some (zCD P n t de,st) else
  match newV st ⟨.set t,de⟩ (n+apart) with
  | some st'=>some (.x (n+apart),st')
  | none=>none
 | none=>none
def badE(m:Bool)(de:DE):DE:=if m then .f (.get 2) [de] else .k (.bool false)
def callS(C:Cfg)(c:Ctr)(args:List SV)(n:Nat)(st0:St):Option (SV×St) :=
 let st:=settles st0 (xRD c.args args++yDF st0 c.args args)
 match yKC C.P st c.args args with
 | none=>none
 | some ds =>
  let st1:St:=if c.pre then { st with obl:=.pre c.fn ds::st.obl } else st
  let de:=DE.f (.ext c.fn) ds
  match yXA c.args args with
  | [] =>
   match c.res with
   | .val t =>
    match C.P.underlying t with
    | some d =>
     if qUB d then some (zCD C.P n t de,st1) else
     match newV st1 ⟨.set t,de⟩ n with
     | some st2=>some (.x n,st2)
     | none=>none
    | none=>none
   | .own t =>
    match newV st1 ⟨.own t,de⟩ n with
    | some st2=>some (.x n,st2)
    | none=>none
   | .cell _=>none
   | .unit=>some (.tup [],st1)
   | .rd _ _=>none
   | .valK t k =>
    match C.P.underlying t with
    | some (.int kd)=>some (.i kd (.k (.int k)),st1)
    | _=>none
   | .valT t =>
    match newV st1 ⟨.set t,de⟩ n with
    | some st2=>some (.tup [.x n,.b (.k (.bool true))],st2)
    | none=>none
   | .ownT t =>
    match newV st1 ⟨.own t,de⟩ n with
    | some st2=>some (.tup [.x n,.b (.k (.bool true))],st2)
    | none=>none
   | .ccell _=>none
   | .valB t =>
    match newV st1 ⟨.set t,.f (.get 0) [de]⟩ n with
    | some st2=>some (.tup [.x n,.b (.f (.get 1) [de])],st2)
    | none=>none
  | [(.own _,v)] =>
   match c.res with
   | .own t =>
    match newV (zVF st1 v) ⟨.own t,de⟩ n with
    | some st3=>some (.x n,st3)
    | none=>none
   | _=>none
  | [(.wcell _ m,.oa o off)] =>
   match lk o st1.objs with
   | some cs =>
    match c.res with
    | .cell m' =>
     if m=m'/\noMc c.args=true then
      match newV (zGC st1 cs[off]?) ⟨.tags m,de⟩ n with
      | some st3=>some (.tup [],{ st3 with objs:=upd o (cs.set off (.x n)) st3.objs })
      | none=>none
     else none
    | _=>none
   | none=>none
  | [(.ccell _ off t,.w (.clo _) [.oa o 0])] =>
   match lk o st1.objs with
   | some cs =>
    match c.res with
    | .ccell t' =>
     if t=t'/\qPH o c.args args=true then
      match newV (zGC st1 cs[off]?) ⟨.own t,de⟩ n with
      | some st3=>some (.tup [],{ st3 with objs:=upd o (cs.set off (.x n)) st3.objs })
      | none=>none
     else none
    | _=>none
   | none=>none
  | [(.rd tb m,.oa o _)] =>
   match c.res with
   | .rd t m' =>
    if noMc c.args=true/\m=m' then
     match newV st1 ⟨.set tb,.f (.get 1) [de]⟩ n with
     | some st2=>xOK C.P t (.f (.get 0) [de]) n { st2 with objs:=upd o [.x n,.b (badE m de)] st2.objs }
     | none=>none
    else none
   | _=>none
  | _=>none
end Go.Dx
namespace Go.Dx
open Go
mutual
def Ob.beq:Ob->Ob->Bool
 | .room d n,.room e m=>d.beq e&&n==m
 | .cap d n,.cap e m=>d.beq e&&n==m
 | .nz d,.nz e=>d.beq e
 | .ge0 d,.ge0 e=>d.beq e
 | .idx d e b,.idx d' e' b'=>d.beq d'&&e.beq e'&&b==b'
 | .pre n l,.pre m k=>n==m&&zRB l k
 | .term lv g i b,.term lv' g' i' b'=>lv==lv'&&g.beq g'&&zRB i i'&&zRB b b'
 | .defn n lv g i b,.defn n' lv' g' i' b'=>n==n'&&lv==lv'&&g.beq g'&&zRB i i'&&zRB b b'
 | .all s i b o,.all s' i' b' o'=>s.beq s'&&zRB i i'&&zRB b b'&&yAC o o'
 | .when c b o,.when c' b' o'=>c.beq c'&&b==b'&&yAC o o'
 | _,_=>false
def yAC:List Ob->List Ob->Bool
 | [],[]=>true
 | a::as,b::bs=>Ob.beq a b&&yAC as bs
 | _,_=>false
end
def cvKd:CV->Option Kd
 | .nilp=>some .pt
 | .nils=>some .sl
 | .nilm=>some .mp
 | _=>none
def nilS(P:Program)(st:St)(t:TypeId)(op:BinOp)(x:SV)(c:CV):Option SV :=
 match cvKd c with
 | none=>none
 | some kd =>
  if kdT P t=some kd then
   match x with
   | .oa _ _ =>
    if kd = .pt then
     match op with
     | .eql=>some (.b (.k (.bool false)))
     | .neq=>some (.b (.k (.bool true)))
     | _=>none
    else none
   | x =>
    match yNE P st x with
    | some (kd',d) =>
     if kd=kd' then
      match op with
      | .eql=>some (.b (mkf .isNil [d]))
      | .neq=>some (.b (mkf .not [mkf .isNil [d]]))
      | _=>none
     else none
    | none=>none
  else none
def nilI(P:Program)(t:TypeId)(op:BinOp)(a:SV)(y:Operand):Option SV :=
 match a,y,P.underlying t with
 | .c .nilI,.const .nilIface,some (.interface _) =>
  match op with
  | .eql=>some (.b (.k (.bool true)))
  | .neq=>some (.b (.k (.bool false)))
  | _=>none
 | _,_,_=>none
def nilG(P:Program)(st:St)(t:TypeId)(op:BinOp)(a:SV)(y:Operand):Option SV :=
 match a,y,P.underlying t with
 | .x m,.const .nilIface,some (.interface _) =>
  match lk m st.vars with
  | some ⟨.gi,d⟩ =>
   match op with
   | .eql=>some (.b (mkf .not [d]))
   | .neq=>some (.b d)
   | _=>none
  | _=>none
 | _,_,_=>none
def binS(P:Program)(st:St)(t:TypeId)(op:BinOp)(x y:SV):Option SV :=
 match x,y with
 | .i k a,.i k' b =>
  match op with
  | .shl=>match b with
   | .k (.int n)=>if 0<=n then some (.i k (mkf (.shl k) [a,b])) else none
   | _=>none
  | .shr=>match b with
   | .k (.int n)=>if 0<=n then some (.i k (mkf (.shr k) [a,b])) else none
   | _=>none
  | op =>
   if k=k' then
    match op with
    | .add=>some (.i k (mkf (.add k) [a,b]))
    | .sub=>some (.i k (mkf (.sub k) [a,b]))
    | .mul=>some (.i k (mkf (.mul k) [a,b]))
    | .and=>some (.i k (mkf (.band k) [a,b]))
    | .or=>some (.i k (mkf (.bor k) [a,b]))
    | .xor=>some (.i k (mkf (.bxor k) [a,b]))
    | .eql=>some (.b (mkf .eqI [a,b]))
    | .neq=>some (.b (mkf .neI [a,b]))
    | .lss=>some (.b (mkf .ltI [a,b]))
    | .leq=>some (.b (mkf .leI [a,b]))
    | .gtr=>some (.b (mkf .ltI [b,a]))
    | .geq=>some (.b (mkf .leI [b,a]))
    | .rem=>match b with
     | .k (.int n)=>if n=0 then none else some (.i k (mkf .tmod [a,b]))
     | _=>none
    | .quo=>match b with
     | .k (.int n)=>if n=0 then none else some (.i k (mkf (.tquo k) [a,b]))
     | _=>none
    | _=>none
   else none
 | .s a,.s b =>
  match op with
  | .eql=>some (.b (mkf .eqS [a,b]))
  | .neq=>some (.b (mkf .not [mkf .eqS [a,b]]))
  | _=>none
 | .b a,.b b =>
  match P.underlying t,op with
  | some .bool,.eql=>some (.b (mkf .ite [a,b,mkf .not [b]]))
  | some .bool,.neq=>some (.b (mkf .ite [a,mkf .not [b],b]))
  | _,_=>none
 | x,.c c=>nilS P st t op x c
 | _,_=>none
def xPH(P:Program)(st:St)(t:TypeId)(x:SV):Option DE :=
 match svT P st t x with
 | some d=>some d
 | none =>
  match x with
  | .x n=>match lk n st.vars with
   | some ⟨.own u,de⟩=>if u=t then some de else none
   | _=>none
  | _=>none
def convS(P:Program)(st:St)(n:Nat)(src dst:TypeId)(x:SV):Option (SV×St) :=
 match P.underlying src,P.underlying dst,x with
 | some (.int _),some (.int k),.i _ e=>some (.i k (mkf (.wrap k) [e]),st)
 | some (.slice e),some .string,x =>
  match P.underlying e,xPH P st src x with
  | some (.int .u8),some d=>some (.s (mkf .toStr [d]),st)
  | _,_=>none
 | some .string,some (.slice e),.s d =>
  match P.underlying e with
  | some (.int .u8)=>do
   let st' <- newV st ⟨.set dst,mkf .toBytes [d]⟩ n
   some (.x n,st')
  | _=>none
 | _,_,_=>none
def yFD(P:Program)(e:TypeId)(i:TypeInfo):Bool :=
 match i.zero with
 | some z=>z.cells.size==i.size&&decide (0<i.size)&&(!isU8 P e || i.size==1)
 | none=>false
def xOD(st:St)(t:TypeId):SV->Option (DE×St)
 | .c .nils=>some (.k .nil,st)
 | .x m =>
  match lk m st.vars with
  | some ⟨.own v,de⟩=>if v=t then some (de,{ st with vars:=upd m ⟨.dead,de⟩ st.vars }) else none
  | _=>none
 | _=>none
def addOb(st:St)(o:Ob):St:={ st with obl:=o::st.obl }
def appS(P:Program)(st:St)(n:Nat)(t u:TypeId)(s x:SV):Option (SV×St):=do
 match P.underlying t with
 | some (.slice e)=>do
  let i <- P.info? e
  if u=t then
   if yFD P e i then do
    let st1:=settle st x
    let d2 <- svT P st1 t x
    let (d,st2) <- xOD st1 t s
    let de:=mkf .app [d,d2]
    let st3 <- newV (addOb st2 (.room de i.bytes)) ⟨.own t,de⟩ n
    some (.x n,st3)
   else none
  else
   match P.underlying u,x,i.zero,P.underlying e with
   | some .string,.s d2,some (.int .u8 0),some (.int .u8) =>
    if i.size=1/\i.bytes=1 then do
     let (d,st2) <- xOD st t s
     let de:=mkf .app [d,d2]
     let st3 <- newV (addOb st2 (.room de 1)) ⟨.own t,de⟩ n
     some (.x n,st3)
    else none
   | _,_,_,_=>none
 | _=>none
def xNH(P:Program)(st:St)(n:Nat)(t:TypeId)(len:Nat)(parts:List (Nat×SV)):Option (SV×St):=do
 match P.underlying t with
 | some (.slice e)=>do
  let i <- P.info? e
  if yFD P e i/\len<=1000/\len*i.size<=16777216 then do
   let z <- xLE P e
   let st1:=settles st (parts.map (·.2))
   let cells <- yLG P st1 (fun j=>if j<len then some (j*i.size,e) else none) (List.flatten (List.replicate len z)) parts
   let ds <- zLI P st1 e i.size len cells
   let de:=if isU8 P e then mkf .mkbytes ds else mkf .mklist ds
   let st2 <- newV st1 ⟨.own t,de⟩ n
   some (.x n,st2)
  else none
 | _=>none
def xMH(P:Program)(st:St)(n:Nat)(t:TypeId)(len:Nat)(parts:List (Nat×SV)):Option (SV×St) :=
 match P.underlying t with
 | some (.slice e) =>
  match P.info? e,xLE P e with
  | some i,some z =>
   if yFD P e i/\0<len/\len<=64/\len*i.size<=16777216 then
    match yLG P st (fun j=>if j<len then some (j*i.size,e) else none) (List.flatten (List.replicate len z)) parts with
    | some cells =>
     match newO st cells n with
     | some st'=>some (.osl n len,st')
     | none=>none
    | none=>none
   else none
  | _,_=>none
 | _=>none
def xLH(P:Program)(st:St)(n:Nat)(t:TypeId)(len:Nat)(parts:List (Nat×SV)):Option (SV×St) :=
 match xNH P st n t len parts with
 | some r=>some r
 | none=>xMH P st n t len parts
mutual
def DE.toD:DE->Option D
 | .k d=>some d
 | .f .mkrow as=>(toDs as).map .row
 | _=>none
def toDs:List DE->Option (List D)
 | []=>some []
 | a::as =>
  match a.toD,toDs as with
  | some d,some ds=>some (d::ds)
  | _,_=>none
end
def qSB(lv:Nat):St:={ env:=[],vars:=[],objs:=[],loops:=[],obl:=[],lvl:=lv,nx:=0,nt:=0 }
def zeroD(P:Program)(e:TypeId):Option D :=
 match xLE P e with
 | some z =>
  match yED P (qSB 0) e z with
  | some v =>
   match svT P (qSB 0) e v with
   | some d=>d.toD
   | none=>none
  | none=>none
 | none=>none
def mkslS(P:Program)(st:St)(n:Nat)(t:TypeId)(l c:SV):Option (SV×St):=do
 match P.underlying t with
 | some (.slice e)=>do
  let i <- P.info? e
  if yFD P e i then
   match l,c with
   | .i .i64 f,.i .i64 d =>
    if f.beq (.k (.int 0)) then
     match newV (addOb st (.cap d i.bytes)) ⟨.own t,if isU8 P e then DE.k (.bytes []) else DE.k (.list [])⟩ n with
     | some st1=>some (.x n,st1)
     | none=>none
    else if f.beq d then
     match zeroD P e with
     | some z =>
      if !isU8 P e || z.beq (.int 0) then
       match newV (addOb st (.cap d i.bytes)) ⟨.own t,if isU8 P e then .f .zeros [d] else .f .repl [d,.k z]⟩ n with
       | some st1=>some (.x n,st1)
       | none=>none
      else none
     | none=>none
    else none
   | _,_=>none
  else none
 | _=>none
def mkslO(P:Program)(st:St)(n:Nat)(t:TypeId)(l c:SV):Option (SV×St) :=
 match P.underlying t,l,c with
 | some (.slice e),.i .i64 (.k (.int a)),.i .i64 (.k (.int b)) =>
  match P.info? e,xLE P e with
  | some i,some z =>
   if a=b/\0<a/\a<=64/\isU8 P e=false/\i.bytes<=1000000/\0<i.size then
    match newO st (List.flatten (List.replicate a.toNat z)) n with
    | some st'=>some (.osl n a.toNat,st')
    | none=>none
   else none
  | _,_=>none
 | _,_,_=>none
def mkslA(P:Program)(st:St)(n:Nat)(t:TypeId)(l c:SV):Option (SV×St) :=
 match mkslO P st n t l c with
 | some r=>some r
 | none=>mkslS P st n t l c
def appZ(P:Program)(st:St)(n:Nat)(t u:TypeId)(s x:SV):Option (SV×St) :=
 match P.underlying t,P.underlying u,s,x with
 | some (.slice e),some (.int _),.c .nils,.i _ d =>
  match P.info? e,zeroD P e with
  | some i,some z =>
   if yFD P e i && !isU8 P e then
    match newV (addOb st (.cap d i.bytes)) ⟨.own t,.f .app [.k .nil,.f .repl [d,.k z]]⟩ n with
    | some st'=>some (.x n,st')
    | none=>none
   else none
  | _,_=>none
 | _,_,_,_=>none
def appZ2(P:Program)(st:St)(n:Nat)(t u:TypeId)(s x:SV):Option (SV×St) :=
 match s with
 | .x m =>
  match lk m st.vars with
  | some ⟨.own t',d0⟩ =>
   if t'=t then
    match appZ P st n t u (.c .nils) x with
    | some (r,st')=>some (r,addOb st' (.when (.f .isNil [d0]) false [.nz (.k (.int 0))]))
    | none=>none
   else none
  | _=>none
 | _=>none
def appW(P:Program)(st:St)(t u:TypeId)(s x:SV):Option (SV×St) :=
 match s with
 | .w (.pre 0) [.x m] =>
  match lk m (settle st x).vars,P.underlying t with
  | some ⟨.own t',d⟩,some (.slice e) =>
   if t=t'/\t=u/\isU8 P e=true/\(P.info? e).map (·.size)=some 1 then
    match svT P (settle st x) t x with
    | some (.f .mkbytes l) =>
     if 0<l.length/\l.length<=1000 then
      some (.w (.pre l.length) [.x m],{ addOb (settle st x) (.idx (.k (.int (l.length:Nat))) d false) with vars:=upd m ⟨.own t,.f .copy [d,.f .mkbytes l]⟩ (settle st x).vars })
     else none
    | _=>none
   else none
  | _,_=>none
 | _=>none
def appA(P:Program)(st:St)(n:Nat)(t u:TypeId)(s x:SV):Option (SV×St) :=
 match appS P st n t u s x with
 | some r=>some r
 | none =>
  match appZ P st n t u s x with
  | some r=>some r
  | none=>appZ2 P st n t u s x
def appB(P:Program)(st:St)(n:Nat)(t u:TypeId)(s x:SV):Option (SV×St) :=
 match appA P st n t u s x with
 | some r=>some r
 | none=>appW P st t u s x
def idxS(P:Program)(st:St)(t:TypeId)(x ix:SV):Option SV:=do
 match P.underlying t with
 | some (.slice e)=>do
  let i <- P.info? e
  match x,ix with
  | .osl o n,.i .i64 (.k (.int a))=>if 0<=a/\a<n then some (.oa o (a.toNat*i.size)) else none
  | x,.i .i64 (.v l)=>do
   let lp <- st.loops.find? fun lp=>lp.lvl==l
   if lp.src.beq x&&lp.el==e then some (.ra lp.row 0) else none
  | _,_=>none
 | _=>none
def idxO(P:Program)(st:St)(n:Nat)(t:TypeId)(x ix:SV):Option (SV×St) :=
 match P.underlying t,svT P st t x,ix with
 | some (.slice e),some d,.i _ k =>
  match P.info? e with
  | some i =>
   if !isU8 P e || i.size==1 then
    match newV (addOb st (.idx k d true)) ⟨.row e,mkf .at [d,k]⟩ n with
    | some st'=>some (.ra n 0,st')
    | none=>none
   else none
  | none=>none
 | _,_,_=>none
def slS(P:Program)(st:St)(n:Nat)(t:TypeId)(x:SV)(lo hi mx:Option SV):Option (SV×St) :=
 match P.underlying t with
 | some (.slice e) =>
  match svT P (settle st x) t x,P.info? e with
  | some d,some i =>
   if !isU8 P e || i.size==1 then
    match lo,hi,mx with
    | none,some (.i .i64 k),none =>
     match newV (addOb (settle st x) (.idx k d false)) ⟨.set t,mkf .take [d,k]⟩ n with
     | some st'=>some (.x n,st')
     | none=>none
    | some (.i .i64 k),none,none =>
     match newV (addOb (settle st x) (.idx k d false)) ⟨.set t,mkf .drop [d,k]⟩ n with
     | some st'=>some (.x n,st')
     | none=>none
    | none,some (.i .i64 k),some (.i .i64 k') =>
     if k.beq k' then
      match newV (addOb (settle st x) (.idx k d false)) ⟨.set t,mkf .take [d,k]⟩ n with
      | some st'=>some (.x n,st')
      | none=>none
     else none
    | _,_,_=>none
   else none
  | _,_=>none
 | _=>none
def slZ(P:Program)(st:St)(n:Nat)(t:TypeId)(x:SV):Option (SV×St) :=
 match P.underlying t with
 | some (.slice e) =>
  match P.info? e with
  | some i =>
   match svT P st t x with
   | some d=>if d.beq (.k .nil) then some (.c .nils,st) else some (.c .nils,addOb st (.when (.f .not [.f .isNil [d]]) true [.nz (.k (.int 0))]))
   | none =>
    match xOD st t x with
    | some (d,st1) =>
     match newV st1 ⟨.own t,.f .take [d,.k (.int 0)]⟩ n with
     | some st2=>some (.x n,st2)
     | none=>none
    | none=>none
  | none=>none
 | _=>none
def isZ:Option SV->Bool
 | some (.i .i64 (.k (.int 0)))=>true
 | _=>false
def slO(P:Program)(t:TypeId):SV->Option SV
 | .oa o 0 =>
  match P.underlying t with
  | some (.array n e)=>if (P.info? e).isSome&&decide (0<n) then some (.osl o n) else none
  | _=>none
 | _=>none
def slA(P:Program)(st:St)(n:Nat)(t:TypeId)(x:SV)(lo hi mx:Option SV):Option (SV×St) :=
 if lo.isNone&&mx.isNone&&isZ hi then slZ P st n t x else
 if lo.isNone&&mx.isNone&&hi.isNone then
  match slO P t x with
  | some r=>some (r,st)
  | none=>none
 else slS P st n t x lo hi mx
def winSl(P:Program)(st:St)(t:TypeId)(x:SV)(lo hi mx:Option SV):Option (SV×St) :=
 match x with
 | .x m =>
  match lk m st.vars,P.underlying t with
  | some ⟨.own u,d⟩,some (.slice e) =>
   if u=t/\isU8 P e=true/\(P.info? e).map (·.size)=some 1 then
    match lo,hi,mx with
    | none,some (.i .i64 (.k (.int 0))),none=>some (.w (.pre 0) [.x m],st)
    | some (.i .i64 (.k (.int k))),none,none=>if 0<=k then some (.w (.suf k.toNat) [.x m],addOb st (.idx (.k (.int k)) d false)) else none
    | _,_,_=>none
   else none
  | _,_=>none
 | _=>none
def slR(P:Program)(st:St)(n:Nat)(ty t:TypeId)(x:SV)(lo hi mx:Option SV):Option (SV×St) :=
 match x,lo,hi,mx with
 | .ra m off,none,none,none =>
  match lk m st.vars,P.underlying t,P.underlying ty with
  | some ⟨.row u,d⟩,some (.array k e),some (.slice e') =>
   if e=e'/\isU8 P e=true/\(P.info? e).map (·.size)=some 1/\0<k/\k<=64/\(List.range k).all (fun j=>decide ((tys P u)[off+j]? = some e))=true then
    match newV st ⟨.set ty,mkf .mkbytes ((List.range k).map fun j=>mkf (.get (off+j)) [d])⟩ n with
    | some st'=>some (.x n,st')
    | none=>none
   else none
  | _,_,_=>none
 | _,_,_,_=>none
def slW(win:Bool)(P:Program)(st:St)(n:Nat)(ty t:TypeId)(x:SV)(lo hi mx:Option SV):Option (SV×St) :=
 match (if win then winSl P st t x lo hi mx else none) with
 | some r=>some r
 | none =>
  match slR P st n ty t x lo hi mx with
  | some r=>some r
  | none=>slA P st n t x lo hi mx
def lenW(P:Program)(st:St)(t:TypeId):SV->Option SV
 | .osl _ n=>if kdT P t=some .sl/\n<=1000000 then some (.i .i64 (.k (.int (n:Nat)))) else none
 | .w (.suf k) [.x m] =>
  match lk m st.vars with
  | some ⟨.own _,d⟩=>if kdT P t=some .sl then some (.i .i64 (.f .len [.f .drop [d,.k (.int (k:Nat))]])) else none
  | _=>none
 | _=>none
def idxE(P:Program)(st:St)(t:TypeId)(x ix:SV):Option (SV×St) :=
 match P.underlying t,x,ix with
 | some (.slice e),.x m,.i _ k =>
  match lk m st.vars,P.info? e with
  | some ⟨.own u,d⟩,some i=>if u=t/\yFD P e i=true then some (.ea m k 0 i.size,addOb st (.idx k d true)) else none
  | _,_=>none
 | _,_,_=>none
def idxA(P:Program)(st:St)(n:Nat)(t:TypeId)(x ix:SV):Option (SV×St) :=
 match idxS P st t x ix with
 | some r=>some (r,st)
 | none =>
  match idxE P st t x ix with
  | some r=>some r
  | none=>idxO P st n t x ix
def xXI(P:Program)(e t:TypeId)(off:Nat):Option (Option Nat) :=
 if off=0/\t=e then some none else
 match P.underlying e with
 | some de=>if zGA de/\((tys P e).drop off).take (tys P t).length=tys P t/\tys P t≠[] then some (some off) else none
 | _=>none
def loadE(P:Program)(st:St)(n:Nat)(t:TypeId):SV->Option (SV×St)
 | .ea m k off sz =>
  match lk m st.vars with
  | some ⟨.own u,d⟩ =>
   match P.underlying u with
   | some (.slice e) =>
    match P.info? e,P.underlying t,xXI P e t off with
    | some i,some dt,some p =>
     if i.size=sz/\yFD P e i=true then
      match (match p with|none=>some (DE.f .at [d,k])|some o=>if zGA dt then none else some (mkf (.get o) [.f .at [d,k]])) with
      | some de =>
       if qUB dt then some (zCD P n t de,addOb st (.idx k d true)) else
       match newV (addOb st (.idx k d true)) ⟨.set t,de⟩ n with
       | some st'=>some (.x n,st')
       | none=>none
      | none=>none
     else none
    | _,_,_=>none
   | _=>none
  | _=>none
 | _=>none
def loadG(P:Program)(st:St)(n:Nat)(t:TypeId)(a:SV):Option (SV×St) :=
 match a,P.underlying t,P.info? t with
 | .c (.glob k),some (.interface _),some _ =>
  match newV (addOb st (.nz (.f (.ext 399) [.k (.int (k:Nat))]))) ⟨.gi,.k (.bool true)⟩ n with
  | some st1=>some (.x n,st1)
  | none=>none
 | _,_,_=>none
def loadA(P:Program)(st:St)(n:Nat)(t:TypeId)(a:SV):Option (SV×St) :=
 match qMH P st t a with
 | some v=>some (v,st)
 | none =>
  match loadE P st n t a with
  | some r=>some r
  | none=>loadG P st n t a
def zCI(d k x:DE):Option Nat->DE
 | none=>.f .setAt [d,k,x]
 | some o=>.f (.setCells o) [d,k,x]
def putS(d k x:DE)(p:Option Nat):DE :=
 match d,k,p with
 | .f .app [d0,.f .mklist [z]],.f .len [d1],none=>if d1.beq d0 then .f .app [d0,.f .mklist [x]] else zCI (.f .app [d0,.f .mklist [z]]) (.f .len [d1]) x none
 | d,k,p=>zCI d k x p
def qSK(P:Program)(st:St)(t:TypeId)(a v:SV):Option St :=
 match a with
 | .ea m k off sz =>
  match svT P (settle st v) t v,lk m (settle st v).vars with
  | some x,some ⟨.own u,d⟩ =>
   match P.underlying u with
   | some (.slice e) =>
    match P.info? e,P.info? t,xXI P e t off with
    | some i,some it,some p =>
     if i.size=sz/\yFD P e i=true/\it.size=(tys P t).length then
      some { addOb (settle st v) (.idx k d true) with vars:=upd m ⟨.own u,putS d k x p⟩ (settle st v).vars }
     else none
    | _,_,_=>none
   | _=>none
  | _,_=>none
 | _=>none
def qMI(P:Program)(st:St)(t:TypeId)(a v:SV):Option St :=
 match qTK P st t a v with
 | some s=>some s
 | none=>qSK P st t a v
def copyS(P:Program)(st:St)(t u:TypeId)(x y:SV):Option (SV×St) :=
 match x with
 | .x m =>
  match lk m st.vars,P.underlying t with
  | some ⟨.own t',d⟩,some (.slice e) =>
   if t=t'/\t=u/\isU8 P e=true/\(P.info? e).map (·.size)=some 1 then
    match svT P st u y with
    | some s=>some (.i .i64 (mkf .imin [mkf .len [d],mkf .len [s]]),{ st with vars:=upd m ⟨.own t,.f .copy [d,s]⟩ st.vars })
    | none=>none
   else none
  | _,_=>none
 | _=>none
def ySB(d:DE):Nat->List SV->Option (List SV)
 | _,[]=>some []
 | j,.i .u8 e::l =>
  match ySB d (j+1) l with
  | some r=>some (.i .u8 (mkf .ite [mkf .ltI [.k (.int (j:Nat)),mkf .len [d]],mkf (.get 0) [mkf .at [d,.k (.int (j:Nat))]],e])::r)
  | none=>none
 | _,_=>none
def copyO(P:Program)(st:St)(t u:TypeId)(x y:SV):Option (SV×St) :=
 match x with
 | .osl o n =>
  match lk o st.objs,P.underlying t with
  | some cs,some (.slice e) =>
   if t=u/\isU8 P e=true/\(P.info? e).map (·.size)=some 1/\cs.length=n then
    match svT P st u y with
    | some d =>
     match ySB d 0 cs with
     | some cs'=>some (.i .i64 (mkf .imin [.k (.int (n:Nat)),mkf .len [d]]),{ st with objs:=upd o cs' st.objs })
     | none=>none
    | none=>none
   else none
  | _,_=>none
 | _=>none
def copyA(P:Program)(st:St)(t u:TypeId)(x y:SV):Option (SV×St) :=
 match copyS P st t u x y with
 | some r=>some r
 | none=>copyO P st t u x y
def opdO(st:St):Option Operand->Option (Option SV)
 | none=>some none
 | some o=>(opd st o).map some
def minS:List SV->Option SV
 | [.i k a,.i k' b]=>if k=k' then some (.i k (mkf .imin [a,b])) else none
 | _=>none
def maxS:List SV->Option SV
 | [.i k a,.i k' b]=>if k=k' then some (.i k (mkf .imax [a,b])) else none
 | _=>none
def remS(st:St)(op:BinOp):SV->SV->Option (SV×St)
 | .i k a,.i k' b =>
  match op with
  | .rem=>if k=k' then some (.i k (mkf .tmod [a,b]),addOb st (.nz b)) else none
  | .shr=>some (.i k (mkf (.shr k) [a,b]),addOb st (.ge0 b))
  | _=>none
 | _,_=>none
def binA(P:Program)(st:St)(t:TypeId)(op:BinOp)(x y:SV):Option (SV×St) :=
 match binS P st t op x y with
 | some v=>some (v,st)
 | none=>remS st op x y
def ptrD(P:Program)(st:St):SV->Option (TypeId×DE)
 | .x n =>
  match lk n st.vars with
  | some ⟨.set t,d⟩=>some (t,d)
  | _=>none
 | .xc n j =>
  match lk n st.vars with
  | some ⟨.set u,d⟩=>match (tys P u)[j]? with|some t=>some (t,mkf (.get j) [d])|none=>none
  | some ⟨.row u,d⟩=>match (tys P u)[j]? with|some t=>some (t,mkf (.get j) [d])|none=>none
  | _=>none
 | _=>none
def restP(P:Program)(st:St)(n:Nat)(q:SV):Option (SV×St) :=
 match ptrD P st q with
 | some (t,d) =>
  match P.underlying t with
  | some (.pointer e) =>
   match newV (addOb st (.when (mkf .isNil [d]) true [.nz (.k (.int 0))])) ⟨.row e,mkf .deref [d]⟩ n with
   | some st'=>some (.ra n 0,st')
   | none=>none
  | _=>none
 | none=>none
def xRH(P:Program)(st:St)(t:TypeId):SV->SV->Option (SV×St)
 | .s (.k (.str l)),.i _ e =>
  match P.underlying t with
  | some .string=>some (.i .u8 (.f .at [.k (.bytes l),e]),addOb st (.idx e (.k (.bytes l)) true))
  | _=>none
 | _,_=>none
abbrev CallF:=FuncId->List SV->St->Option (SV×St)
def flagN(C:Cfg)(k:Nat)(st:St):Bool:=(C.hint st.nt k 0).isSome
def qVA(C:Cfg)(callF:CallF)(f:FuncId)(as:List SV)(n:Nat)(st:St):Option (SV×St) :=
 match C.ctr f with
 | some k =>
  match callS C k as n st with
  | some r=>some r
  | none=>if flagN C 999998 st then callF f as { st with nx:=n } else none
 | none=>callF f as { st with nx:=n }
def zWK:TypeDesc->Bool
 | .pointer _=>true
 | _=>false
def methF(P:Program)(t:TypeId)(name:String):Option FuncId :=
 match P.info? t,P.underlying t with
 | some i,some d =>
  match i.methods.find? (·.name==name) with
  | some m =>
   match m.func with
   | some (f,p)=>if m.path.isEmpty&&(p==zWK d) then some f else none
   | none=>none
  | none=>none
 | _,_=>none
def opS(C:Cfg)(callF:CallF)(st:St)(n:Nat)(o:Oper):Option (SV×St) :=
 let P:=C.P
 match o.op with
 | .move x | .assign x=>do
  let a <- opd st x
  some (a,st)
 | .pick c a b=>do
  let q <- opd st c
  match q with
  | .b (.k (.bool true))=>do
   let v <- opd st a
   some (v,st)
  | .b (.k (.bool false))=>do
   let v <- opd st b
   some (v,st)
  | _=>none
 | .alloc t=>do
  let z <- xLE P t
  let st' <- newO st z n
  some (.oa n 0,st')
 | .box t x=>do
  let v <- opd st x
  let l <- flat P st t v
  let st' <- newO st l n
  some (.oa n 0,st')
 | .build t parts=>do
  let ps <- zGG st parts.toList
  let z <- xLE P t
  match P.underlying t with
  | some (.struct fs)=>do
   if fs.toList.all (fun f=>(P.info? f.type).isSome) then
    let cs <- yLG P st (qCD P t) z ps
    some (.agg cs,st)
   else none
  | _=>none
 | .buildSlice t len parts=>do
  let ps <- zGG st parts.toList
  xLH P st n t len ps
 | .load t a=>do
  let p <- opd st a
  loadA P st n t p
 | .store t a x=>do
  let p <- opd st a
  let v <- opd st x
  let st' <- qMI P st t p v
  some (.tup [],st')
 | .nilCheck x=>do
  let q <- opd st x
  match q with
  | .oa o off=>some (.oa o off,st)
  | .ra m off=>some (.ra m off,st)
  | .ea m e off sz=>some (.ea m e off sz,st)
  | q=>restP P st n q
 | .index t x i=>do
  let a <- opd st x
  let b <- opd st i
  xRH P st t a b
 | .binOp op t x y _=>do
  let a <- opd st x
  let b <- opd st y
  match nilI P t op a y with
  | some r=>some (r,st)
  | none =>
   match nilG P st t op a y with
   | some r=>some (r,st)
   | none=>binA P st t op a b
 | .unOp .not _ x=>do
  let q <- opd st x
  match q with
  | .b e=>some (.b (mkf .not [e]),st)
  | _=>none
 | .convert s d x=>do
  let a <- opd st x
  convS P st n s d a
 | .makeSlice t l c=>do
  let a <- opd st l
  let b <- opd st c
  mkslA P st n t a b
 | .makeFunc (.func f) first caught=>do
  let as <- opds st caught.toList
  if first.isEmpty then some (.w (.clo f) as,st) else none
 | .makeInterface t x=>do
  let v <- opd st x
  match P.underlying t with
  | some (.interface _)=>none
  | some _=>some (.w (.ifc t) [v],st)
  | none=>none
 | .fieldAddr s x f=>do
  let ft <- qCD P s f
  let q <- opd st x
  match q with
  | .oa o k=>some (.oa o (k+ft.1),st)
  | .ra m k=>some (.ra m (k+ft.1),st)
  | .ea m e k sz=>some (.ea m e (k+ft.1) sz,st)
  | _=>none
 | .field s x f=>do
  let ft <- qCD P s f
  let v <- opd st x
  let l <- flat P st s v
  let k <- xXD P ft.2
  let r <- yED P st ft.2 ((l.drop ft.1).take k)
  some (r,st)
 | .indexAddr t x i=>do
  let a <- opd st x
  let b <- opd st i
  idxA P st n t a b
 | .slice t x lo hi mx=>do
  let a <- opd st x
  let l <- opdO st lo
  let h <- opdO st hi
  let m <- opdO st mx
  slW (flagN C 999998 st) P st n o.type t a l h m
 | .extract x i=>do
  let q <- opd st x
  match q with
  | .tup l=>do
   let v <- l[i]?
   some (v,st)
  | _=>none
 | .call c=>do
  match c.callee with
  | .builtin .len=>do
   let as <- opds st c.args.toList
   match as,c.argTypes.toList with
   | [a],[t]=>do
    match yNE P st a with
    | some kd=>if kdT P t=some kd.1/\(kd.1 = .sl∨kd.1 = .sr) then some (.i .i64 (mkf .len [kd.2]),st) else none
    | none=>(lenW P st t a).map fun v=>(v,st)
   | _,_=>none
  | .builtin .append=>do
   let as <- opds st c.args.toList
   match as,c.argTypes.toList with
   | [s,x],[t,u]=>appB P st n t u s x
   | _,_=>none
  | .builtin .copy=>do
   let as <- opds st c.args.toList
   match as,c.argTypes.toList with
   | [x,y],[t,u]=>copyA P st t u x y
   | _,_=>none
  | .builtin .max=>do
   let as <- opds st c.args.toList
   let r <- maxS as
   some (r,st)
  | .builtin .min=>do
   let as <- opds st c.args.toList
   let r <- minS as
   some (r,st)
  | .value (.func f)=>do
   let as <- opds st c.args.toList
   qVA C callF f as n st
  | .value g=>do
   let q <- opd st g
   let as <- opds st c.args.toList
   match q with
   | .w (.clo f) cs=>qVA C callF f (as++cs) n st
   | _=>none
  | .invoke r name=>do
   let q <- opd st r
   let as <- opds st c.args.toList
   match q with
   | .w (.ifc t) [v] =>
    match methF P t name with
    | some f=>qVA C callF f (v::as) n st
    | none=>none
   | _=>none
  | _=>none
 | _=>none
def goS(ops:Array Oper)(st:St)(o:Oper):Option Bool :=
 match o.guard with
 | none=>some true
 | some (j,want) =>
  match ops[j]? with
  | some g =>
   match g.dst with
   | some d =>
    match lk d st.env with
    | some (.b (.k (.bool b)))=>some (b==want)
    | some (.tup [])=>some false
    | _=>none
   | none=>none
  | none=>none
def xHE(C:Cfg)(callF:CallF)(ops:Array Oper)(st:St)(n:Nat)(o:Oper):Option St :=
 match goS ops st o with
 | some true =>
  match opS C callF { st with obl:=[] } n o with
  | some (v,st') =>
   match o.dst with
   | some d=>if d<st'.nt then some { st' with env:=upd d v st'.env,obl:=st'.obl++st.obl,nx:=st.nx } else none
   | none=>some { st' with obl:=st'.obl++st.obl,nx:=st.nx }
  | none=>none
 | some false =>
  match o.dst with
  | some d=>if d<st.nt then some { st with env:=upd d (.tup []) st.env } else none
  | none=>some st
 | none=>none
abbrev Pc:=List (Nat×DE×Bool)
def symGuard(ops:Array Oper)(st:St)(i:Nat):Option (Nat×DE) :=
 match ops[i]? with
 | some o =>
  match o.guard with
  | some (j,_) =>
   match ops[j]? with
   | some q =>
    match q.dst with
    | some d =>
     match lk d st.env with
     | some (.b (.k (.bool _)))=>none
     | some (.b e)=>some (d,e)
     | _=>none
    | none=>none
   | none=>none
  | none=>none
 | none=>none
def yWI(ops:Array Oper)(st:St):List Nat->Option (Nat×DE)
 | []=>none
 | i::r =>
  match symGuard ops st i with
  | some x=>some x
  | none=>yWI ops st r
def qZE(x:Nat×DE×Bool):Pc->Pc
 | []=>[x]
 | y::r=>if x.1<=y.1 then x::y::r else y::qZE x r
def yQH(e:DE)(b:Bool):List (Nat×SV)->List (Nat×SV)
 | []=>[]
 | (s,v)::r=>(s,match v with | .b e'=>if e'.beq e then .b (.k (.bool b)) else .b e'|v=>v)::yQH e b r
def setB(st:St)(e:DE)(b:Bool):St:={ st with env:=yQH e b st.env }
def yXB(ops:Array Oper)(is:List Nat):Nat->Pc->St->List (Pc×St)
 | 0,pc,st=>[(pc,st)]
 | n+1,pc,st =>
  match yWI ops st is with
  | none=>[(pc,st)]
  | some (d,e)=>yXB ops is n (qZE (d,e,true) pc) (setB st e true)++yXB ops is n (qZE (d,e,false) pc) (setB st e false)
def xXE(C:Cfg)(callF:CallF)(ops:Array Oper)(n:Nat)(o:Oper):List (Pc×St)->Option (List (Pc×St))
 | []=>some []
 | p::r =>
  match xHE C callF ops p.2 n o,xXE C callF ops n o r with
  | some s,some r'=>some ((p.1,s)::r')
  | _,_=>none
def yKB(C:Cfg)(callF:CallF)(ops:Array Oper)(base big:Nat):Nat->List Oper->List (Pc×St)->Option (List (Pc×St))
 | _,[],ps=>some ps
 | i,o::r,ps =>
  match xXE C callF ops (base+i*big) o (ps.flatMap fun p=>yXB ops [i] 4 p.1 p.2) with
  | some ps'=>yKB C callF ops base big (i+1) r ps'
  | none=>none
def yWE:List Lp->List Lp->Bool
 | [],[]=>true
 | a::as,b::bs=>a.row==b.row&&a.src.beq b.src&&a.el==b.el&&a.lvl==b.lvl&&yWE as bs
 | _,_=>false
def leS(a b:St):Bool :=
 b.env.all (fun p=>match lk p.1 a.env with|some v=>v.beq p.2|none=>false) &&
 b.vars.all (fun p=>match lk p.1 a.vars with|some v=>decide (v.vt=p.2.vt)&&v.de.beq p.2.de|none=>false) &&
 a.vars.all (fun p=>(lk p.1 b.vars).isSome) &&
 b.objs.all (fun p=>match lk p.1 a.objs with|some v=>qZD v p.2|none=>false) &&
 a.objs.all (fun p=>(lk p.1 b.objs).isSome) &&
 yWE a.loops b.loops&&a.lvl==b.lvl&&a.nt==b.nt &&
 a.obl.all (fun o=>b.obl.any (fun o'=>o.beq o'))
def yOJ:Pc->Pc->Bool
 | [],[]=>true
 | (d,e,b)::p,(d',e',b')::q=>d==d'&&e.beq e'&&b==b'&&yOJ p q
 | _,_=>false
def nthB(d:Bool)(l:List Bool):Nat->Bool :=
 @List.rec Bool (fun _=>Nat->Bool) (fun _=>d) (fun b _ ih n=>@Nat.rec (fun _=>Bool) b (fun k _=>ih k) n) l
theorem yTK{d:Bool}:∀ {l:List Bool} {n:Nat},nthB d l n=l.getD n d
 | [],n=>by simp[nthB]
 | b::l,0=>by show b=_;simp
 | b::l,n+1=>by
  show nthB d l n=_;rw[yTK];simp
def qAF(e:Edge):Bool :=
 match e.ground with
 | .textOnly _=>false
 | .gcOnly _=>false
 | _=>true
theorem qCG(e:Edge):qAF e=Region.binds .any e:=by
 unfold qAF Region.binds;cases e.ground <;> rfl
def yQD(m:List Bool)(l:List Edge):Bool :=
 @List.rec Edge (fun _=>Bool) true (fun e _ ih=>@Bool.rec (fun _=>Bool) ih (@Bool.rec (fun _=>Bool) false ih (nthB false m e.on)) (qAF e)) l
theorem xWF{m:List Bool}:∀ {l:List Edge},yQD m l=l.all fun e=>!Region.binds .any e || m.getD e.on false
 | []=>rfl
 | e::r=>by
  show @Bool.rec (fun _=>Bool) (yQD m r) (@Bool.rec (fun _=>Bool) false (yQD m r) (nthB false m e.on)) (qAF e)=_;rw[List.all_cons,<- xWF,yTK,qCG];cases Region.binds .any e <;> cases m.getD e.on false <;> simp
def xCC(m0:List Bool)(os:List Oper):Nat->List Bool->List Nat :=
 @List.rec Oper (fun _=>Nat->List Bool->List Nat) (fun _ _=>[]) (fun o _ ih i m =>
  @List.rec Bool (fun _=>List Nat) [] (fun b m' _=>@Bool.rec (fun _=>List Nat) (@Bool.rec (fun _=>List Nat) (ih (Nat.succ i) m') (i::ih (Nat.succ i) m') (yQD m0 o.after.toList)) (ih (Nat.succ i) m') b) m) os
def qTD(ops:Array Oper)(m:List Bool):List Nat:=xCC m ops.toList 0 m
theorem zKG{m0:List Bool}:∀ {os:List Oper} {i:Nat} {m:List Bool},xCC m0 os i m =
  (List.range' i os.length).filter fun j=>!m.getD (j-i) true&&((os[j-i]?).map fun o=>o.after.toList.all fun e=>!Region.binds .any e || m0.getD e.on false).getD false
 | [],i,m=>rfl
 | o::os,i,[]=>by
  symm;rw[show xCC m0 (o::os) i []=[] from rfl,List.filter_eq_nil_iff];intro j _
  simp
 | o::os,i,b::m=>by
  have h1:xCC m0 (o::os) i (b::m)=if !b&&yQD m0 o.after.toList then i::xCC m0 os (i+1) m else xCC m0 os (i+1) m:=by
   show @Bool.rec (fun _=>List Nat) (@Bool.rec (fun _=>List Nat) (xCC m0 os (i+1) m) (i::xCC m0 os (i+1) m) (yQD m0 o.after.toList)) (xCC m0 os (i+1) m) b=_;cases b <;> cases yQD m0 o.after.toList <;> rfl
  have h2:(List.range' (i+1) os.length).filter (fun j=>!(b::m).getD (j-i) true&&(((o::os)[j-i]?).map fun o=>o.after.toList.all fun e=>!Region.binds .any e || m0.getD e.on false).getD false) =
    (List.range' (i+1) os.length).filter (fun j=>!m.getD (j-(i+1)) true&&((os[j-(i+1)]?).map fun o=>o.after.toList.all fun e=>!Region.binds .any e || m0.getD e.on false).getD false):=by
   refine List.filter_congr fun j hj=>?_
   have hj1:i+1<=j:=(List.mem_range'_1.1 hj).1;have e:j-i=(j-(i+1))+1:=by omega
   rw[e,gsZ,List.getElem?_cons_succ]
  rw[h1,zKG,List.length_cons,List.range'_succ,List.filter_cons,h2];simp only[Nat.sub_self,gzZ,List.getElem?_cons_zero,Option.map_some,Option.getD_some,xWF]
theorem qUD(ops:Array Oper)(m:List Bool):qTD ops m=Region.ready .any ops m.toArray:=by
 unfold qTD Region.ready;rw[zKG,<- List.range_eq_range',Array.length_toList];refine List.filter_congr fun j _=>?_
 simp only[Nat.sub_zero,Array.getElem?_toList]
 congr 1
 ·simp[Array.getD_eq_getD_getElem?,List.getD_eq_getElem?_getD]
 ·cases ops[j]? with
  | none=>rfl
  | some o=>simp[Array.all_toList,Array.getD_eq_getD_getElem?,List.getD_eq_getElem?_getD]
theorem zJG(ops:Array Oper)(n:Nat):qTD ops (List.replicate n false)=Region.ready .any ops (Array.replicate n false):=by
 rw[qUD,List.toArray_replicate]
def xFH(i:Nat)(l:List Edge):Bool :=
 @List.rec Edge (fun _=>Bool) false (fun e _ ih=>@Bool.rec (fun _=>Bool) ih (@Bool.rec (fun _=>Bool) ih true (Nat.beq e.on i)) (qAF e)) l
theorem yII{i:Nat}:∀ {l:List Edge},xFH i l=l.any fun e=>Region.binds .any e&&e.on==i
 | []=>rfl
 | e::r=>by
  show @Bool.rec (fun _=>Bool) (xFH i r) (@Bool.rec (fun _=>Bool) (xFH i r) true (Nat.beq e.on i)) (qAF e)=_;rw[List.any_cons,<- yII,nbeq,qCG];cases Region.binds .any e <;> cases (e.on==i) <;> rfl
def qED(ops:Array Oper)(oi:Oper)(i:Nat)(os:List Oper):Nat->List Bool->Bool :=
 @List.rec Oper (fun _=>Nat->List Bool->Bool) (fun _ _=>true) (fun o _ ih j m =>
  @List.rec Bool (fun _=>Bool) true (fun b m' _=>@Bool.rec (fun _=>Bool) (@Bool.rec (fun _=>Bool) (@Bool.rec (fun _=>Bool) (@Bool.rec (fun _=>Bool) false (ih (Nat.succ j) m') (oi.apart ops o)) (ih (Nat.succ j) m') (xFH i o.after.toList)) (ih (Nat.succ j) m') (Nat.beq j i)) (ih (Nat.succ j) m') b) m) os
def freeB(ops:Array Oper)(m:List Bool)(i:Nat):Bool :=
 match ops[i]? with
 | none=>false
 | some oi=>qED ops oi i ops.toList 0 m
theorem qTG{ops:Array Oper}{oi:Oper}{i:Nat}:∀ {os:List Oper} {k:Nat} {m:List Bool},qED ops oi i os k m =
  (List.range' k os.length).all fun j=>j==i || m.getD (j-k) true || match os[j-k]? with
   | some oj=>(oj.after.toList.any fun e=>Region.binds .any e&&e.on==i) || oi.apart ops oj
   | none=>true
 | [],k,m=>rfl
 | o::os,k,[]=>by
  symm;rw[show qED ops oi i (o::os) k []=true from rfl,List.all_eq_true];intro j _
  simp
 | o::os,k,b::m=>by
  have h1:qED ops oi i (o::os) k (b::m)=((k==i || b || (xFH i o.after.toList || oi.apart ops o))&&qED ops oi i os (k+1) m):=by
   show @Bool.rec (fun _=>Bool) (@Bool.rec (fun _=>Bool) (@Bool.rec (fun _=>Bool) (@Bool.rec (fun _=>Bool) false (qED ops oi i os (k+1) m) (oi.apart ops o)) (qED ops oi i os (k+1) m) (xFH i o.after.toList)) (qED ops oi i os (k+1) m) (Nat.beq k i)) (qED ops oi i os (k+1) m) b=_;rw[nbeq];cases b <;> cases (k==i) <;> cases xFH i o.after.toList <;> cases oi.apart ops o <;> simp
  have h2:(List.range' (k+1) os.length).all (fun j=>j==i || (b::m).getD (j-k) true || match (o::os)[j-k]? with
    | some oj=>(oj.after.toList.any fun e=>Region.binds .any e&&e.on==i) || oi.apart ops oj
    | none=>true)=(List.range' (k+1) os.length).all (fun j=>j==i || m.getD (j-(k+1)) true || match os[j-(k+1)]? with
    | some oj=>(oj.after.toList.any fun e=>Region.binds .any e&&e.on==i) || oi.apart ops oj
    | none=>true):=by
   rw[Bool.eq_iff_iff,List.all_eq_true,List.all_eq_true];refine forall_congr' fun j=>forall_congr' fun hj=>?_
   have hj1:k+1<=j:=(List.mem_range'_1.1 hj).1;have e:j-k=(j-(k+1))+1:=by omega
   rw[e,gsZ,List.getElem?_cons_succ]
  rw[h1,qTG,List.length_cons,List.range'_succ,List.all_cons,h2];simp only[Nat.sub_self,gzZ,List.getElem?_cons_zero,yII]
theorem freeB_eq(ops:Array Oper)(m:List Bool)(i:Nat):freeB ops m i=Region.free .any ops m.toArray i:=by
 unfold freeB Region.free;cases ops[i]? with
 | none=>rfl
 | some oi =>
  simp only;rw[qTG,<- List.range_eq_range',Array.length_toList];rw[Bool.eq_iff_iff,List.all_eq_true,List.all_eq_true];refine forall_congr' fun j=>forall_congr' fun hj=>?_
  simp only[Nat.sub_zero,Array.getElem?_toList];have e1:m.toArray.getD j true=m.getD j true:=by simp[Array.getD_eq_getD_getElem?,List.getD_eq_getElem?_getD]
  rw[e1];cases ops[j]? with
  | none=>rfl
  | some oj=>simp only[Array.any_toList]
def addL(m:List Bool)(pc:Pc)(s:St):List (List Bool×Pc×St)->Option (List (List Bool×Pc×St))
 | []=>some [(m,pc,s)]
 | p::r =>
  if m==p.1&&yOJ pc p.2.1&&(leS s p.2.2 || decide (4<m.length)) then (if leS s p.2.2 then some (p::r) else none) else
  match addL m pc s r with
  | some r'=>some (p::r')
  | none=>none
def xWJ(m:List Bool):List (Pc×St)->List (List Bool×Pc×St)->Option (List (List Bool×Pc×St))
 | [],acc=>some acc
 | p::r,acc =>
  match addL m p.1 p.2 acc with
  | some acc'=>xWJ m r acc'
  | none=>none
def zJH(C:Cfg)(callF:CallF)(ops:Array Oper)(base big:Nat)(m:List Bool)(pc:Pc)(s:St):List Nat->List (List Bool×Pc×St)->Option (List (List Bool×Pc×St))
 | [],acc=>some acc
 | i::r,acc =>
  match ops[i]? with
  | none=>none
  | some o =>
   match xHE C callF ops s (base+i*big) o with
   | none=>none
   | some s' =>
    match xWJ (m.set i true) (yXB ops (qTD ops (m.set i true)) 6 pc s') acc with
    | none=>none
    | some acc'=>zJH C callF ops base big m pc s r acc'
def isLen:Callee->Bool
 | .builtin .len=>true
 | _=>false
def zYE(o:Oper):Bool:=match o.op with | .move _=>true | .fieldAddr _ _ _=>true | .call c=>isLen c.callee|_=>false
def zDI(ops:Array Oper)(m:List Bool)(i:Nat):Bool:=(match ops[i]? with|some o=>zYE o|none=>false)&&freeB ops m i
def xJK(P:Program)(st:St)(o:Oper):Option SV :=
 match o.op with
 | .load t a =>
  match opd st a with
  | some p=>qMH P st t p
  | none=>none
 | .nilCheck x =>
  match opd st x with
  | some (.oa o off)=>some (.oa o off)
  | some (.ra m off)=>some (.ra m off)
  | some (.ea m e off sz)=>some (.ea m e off sz)
  | _=>none
 | .indexAddr t x i =>
  match opd st x,opd st i with
  | some a,some b=>idxS P st t a b
  | _,_=>none
 | .convert s d x =>
  match P.underlying s,P.underlying d,opd st x with
  | some (.int _),some (.int k),some (.i _ e)=>some (.i k (mkf (.wrap k) [e]))
  | _,_,_=>none
 | _=>none
def readK(o:Oper):Bool:=(match o.op with | .load _ _=>true | .nilCheck _=>true | .indexAddr _ _ _=>true | .convert _ _ _=>true|_=>false)&&o.guard.isNone
def xKC(oj:Oper)(i:Nat):Bool:=oj.after.any fun e=>Region.binds .any e&&e.on==i
def okRj(ops:Array Oper)(oi:Oper)(d i j:Nat):Bool :=
 j==i || match ops[j]? with
  | some oj=>oj.dst != some d&&(!(oj.looksAt ops).contains d || xKC oj i)&&(match oj.dst with|some e=>!(oi.looksAt ops).contains e || xKC oi j|none=>true)
  | none=>true
def okR(ops:Array Oper)(i:Nat):Bool :=
 match ops[i]? with
 | some oi=>readK oi&&(match oi.dst with
  | some d=>!(oi.looksAt ops).contains d&&(List.range ops.size).all (okRj ops oi d i)
  | none=>false)
 | none=>false
def hardK(ops:Array Oper)(ns:List Nat)(i k:Nat):Bool :=
 match ops[k]? with
 | some o=>xKC o i && !(ns.contains k) && !zYE o
 | none=>false
def xQK(ops:Array Oper)(ns:List Nat):List Nat->List (Nat×List Nat)
 | []=>[]
 | i::r=>(i,(List.range ops.size).filter (hardK ops ns i))::xQK ops ns r
def xIG(ops:Array Oper):List (Nat×List Nat) :=
 if Region.noSelect ops then xQK ops ((List.range ops.size).filter (okR ops)) ((List.range ops.size).filter (okR ops)) else []
def chk1(P:Program)(ops:Array Oper)(m:List Bool)(st:St)(r:Nat×List Nat):Bool :=
 !(m.getD r.1 false) || r.2.any (fun k=>m.getD k false) || match ops[r.1]? with
  | some o =>
   match xJK P st o,o.dst with
   | some v,some d=>(match lk d st.env with|some v'=>v.beq v'|none=>false)
   | _,_=>false
  | none=>false
def chkR(P:Program)(ops:Array Oper)(R:List (Nat×List Nat))(m:List Bool)(st:St):Bool:=R.all (chk1 P ops m st)
def readAt(P:Program)(ops:Array Oper)(R:List (Nat×List Nat))(st:St)(i:Nat):Bool :=
 (R.any fun r=>r.1==i)&&(match ops[i]? with|some o=>(xJK P st o).isSome|none=>false)
def xGG(P:Program)(ops:Array Oper)(R:List (Nat×List Nat))(m:List Bool)(st:St)(rs:List Nat):List Nat :=
 match rs.find? (zDI ops m) with
 | some i=>if Region.noSelect ops then [i] else rs
 | none =>
  match rs.find? (readAt P ops R st) with
  | some i=>[i]
  | none=>rs
def yRK(C:Cfg)(callF:CallF)(ops:Array Oper)(base big:Nat)(R:List (Nat×List Nat)):List (List Bool×Pc×St)->List (List Bool×Pc×St)->Option (List (List Bool×Pc×St))
 | [],acc=>some acc
 | p::r,acc =>
  if (qTD ops p.1).isEmpty || !chkR C.P ops R p.1 p.2.2 then none else
  match zJH C callF ops base big p.1 p.2.1 p.2.2 (xGG C.P ops R p.1 p.2.2 (qTD ops p.1)) acc with
  | none=>none
  | some acc'=>yRK C callF ops base big R r acc'
def doneL(P:Program)(ops:Array Oper)(R:List (Nat×List Nat)):List (List Bool×Pc×St)->Option (List (Pc×St))
 | []=>some []
 | p::r =>
  match doneL P ops R r with
  | some r'=>if (qTD ops p.1).isEmpty&&chkR P ops R p.1 p.2.2 then some (p.2::r') else none
  | none=>none
def yJB(C:Cfg)(callF:CallF)(ops:Array Oper)(base big:Nat)(R:List (Nat×List Nat)):Nat->List (List Bool×Pc×St)->Option (List (Pc×St))
 | 0,l=>doneL C.P ops R l
 | n+1,l =>
  match yRK C callF ops base big R l [] with
  | none=>none
  | some l'=>yJB C callF ops base big R n l'
def qTC(C:Cfg)(callF:CallF)(ops:Array Oper)(base big:Nat)(n:Nat)(l:List (List Bool×Pc×St)):Option (List (Pc×St)) :=
 match yJB C callF ops base big (xIG ops) n l with
 | some ps=>some ps
 | none=>yJB C callF ops base big [] n l
inductive Ex where
 | norm
 | exit (i:Nat)
 | ret
 | goto (l:Nat)
 deriving DecidableEq
structure Out where
 pc:List (DE×Bool)
 ex:Ex
 st:St
def xPG(P:Program)(s:St):SV->Option (Option VT×DE)
 | .c .nils=>some (none,.k .nil)
 | .c .nilm=>some (none,.k .nil)
 | .c .nilp=>some (none,.k .nil)
 | .c .nilI=>some (none,.k (.bool false))
 | .x n =>
  match lk n s.vars with
  | some ⟨.set t,de⟩=>some (some (.set t),de)
  | some ⟨.own t,de⟩=>some (some (.own t),de)
  | some ⟨.tags t,de⟩=>some (some (.tags t),de)
  | some ⟨.gi,de⟩=>some (some .gi,de)
  | _=>none
 | .xc n j =>
  match lk n s.vars with
  | some vi =>
   match vi.vt.rest with
   | some u =>
    match (tys P u)[j]? with
    | some ct=>some (some (.set ct),mkf (.get j) [vi.de])
    | none=>none
   | none=>none
  | none=>none
 | _=>none
def qOC(P:Program):VT->SV->Bool
 | .own t,.c .nils=>qZB P t
 | .tags t,.c .nilm=>xBG P t
 | .set t,.c .nils=>qZB P t
 | .set t,.c .nilm=>xBG P t
 | .set t,.c .nilp=>match P.underlying t with|some (.pointer _)=>true|_=>false
 | .gi,.c .nilI=>true
 | _,.c _=>false
 | _,_=>true
def zYJ:VT->Bool
 | .set _=>true
 | _=>false
def xHJ(P:Program)(s:St)(k:Nat)(vi:VI):SV->Option St
 | .x n =>
  match lk n s.vars with
  | some ⟨.own _,de⟩=>if zYJ vi.vt then newV (settle1 s n) vi k else newV { s with vars:=upd n ⟨.dead,de⟩ s.vars } vi k
  | some ⟨.tags _,de⟩=>if zYJ vi.vt then newV (settle1 s n) vi k else newV { s with vars:=upd n ⟨.dead,de⟩ s.vars } vi k
  | some ⟨.set _,_⟩=>newV s vi k
  | some ⟨.gi,_⟩=>newV s vi k
  | _=>none
 | .xc _ _=>newV s vi k
 | .c _=>newV s vi k
 | _=>none
def vtOf:Option VT->Option VT->Option VT
 | some u,some v=>if u=v then some u else
  match u,v with
  | .own t,.set t'=>if t=t' then some (.set t) else none
  | .set t,.own t'=>if t=t' then some (.set t) else none
  | .tags t,.set t'=>if t=t' then some (.set t) else none
  | .set t,.tags t'=>if t=t' then some (.set t) else none
  | _,_=>none
 | some u,none=>some u
 | none,some v=>some v
 | none,none=>none
structure Ms where
 s1:St
 s2:St
 k:Nat
def sameV(m:Ms):SV->Bool
 | .x n =>
  match lk n m.s1.vars,lk n m.s2.vars with
  | some u,some v=>decide (u.vt=v.vt)&&u.de.beq v.de
  | _,_=>true
 | .xc n _ =>
  match lk n m.s1.vars,lk n m.s2.vars with
  | some u,some v=>decide (u.vt=v.vt)&&u.de.beq v.de
  | _,_=>true
 | _=>true
def phi(P:Program)(c:DE)(m:Ms)(a b:SV):Option (SV×Ms) :=
 if a.beq b&&sameV m a then some (a,m) else
 match norm P m.s1 a,norm P m.s2 b with
 | .i k d,.i k' e=>if k=k' then some (.i k (mkf .ite [c,d,e]),m) else none
 | .b d,.b e=>some (.b (mkf .ite [c,d,e]),m)
 | .s d,.s e=>some (.s (mkf .ite [c,d,e]),m)
 | .fl d,.fl e=>some (.fl (mkf .ite [c,d,e]),m)
 | a,b =>
  match xPG P m.s1 a,xPG P m.s2 b with
  | some (u,d),some (v,e) =>
   match vtOf u v with
   | some w =>
    if qOC P w a&&qOC P w b then
     match xHJ P m.s1 m.k ⟨w,mkf .ite [c,d,e]⟩ a,xHJ P m.s2 m.k ⟨w,mkf .ite [c,d,e]⟩ b with
     | some s1,some s2=>some (.x m.k,⟨s1,s2,m.k+1⟩)
     | _,_=>none
    else none
   | none=>none
  | _,_=>none
def phis(P:Program)(c:DE):Ms->List SV->List SV->Option (List SV×Ms)
 | m,[],[]=>some ([],m)
 | m,a::as,b::bs =>
  match phi P c m a b with
  | some (v,m1) =>
   match phis P c m1 as bs with
   | some (vs,m2)=>some (v::vs,m2)
   | none=>none
  | none=>none
 | _,_,_=>none
def phiA(P:Program)(c:DE)(m:Ms)(a b:SV):Option (SV×Ms) :=
 if a.beq b then phi P c m a b else
 match a,b with
 | .agg l,.agg r =>
  match phis P c m l r with
  | some (vs,m1)=>some (.agg vs,m1)
  | none=>none
 | a,b=>phi P c m a b
def qQA(P:Program)(c:DE):Ms->List (Nat×List SV)->List (Nat×List SV)×Ms
 | m,[]=>([],m)
 | m,(o,_)::r =>
  match lk o m.s1.objs,lk o m.s2.objs with
  | some a,some b =>
   match phis P c m a b with
   | some (l,m1)=>let q:=qQA P c m1 r;((o,l)::q.1,q.2)
   | none=>qQA P c m r
  | _,_=>qQA P c m r
def yUB(P:Program)(c:DE):Ms->List (Nat×SV)->List (Nat×SV)×Ms
 | m,[]=>([],m)
 | m,(s,_)::r =>
  match lk s m.s1.env,lk s m.s2.env with
  | some a,some b =>
   match phiA P c m a b with
   | some (v,m1)=>let q:=yUB P c m1 r;((s,v)::q.1,q.2)
   | none=>yUB P c m r
  | _,_=>yUB P c m r
def xXB(s1 s2:St):List (Nat×VI)->List (Nat×VI)
 | []=>[]
 | (n,_)::r =>
  match lk n s1.vars,lk n s2.vars with
  | some a,some b=>(n,if a.vt=b.vt/\a.de.beq b.de=true then a else ⟨.dead,.k .nil⟩)::xXB s1 s2 r
  | _,_=>(n,⟨.dead,.k .nil⟩)::xXB s1 s2 r
def qKD{α β:Type}(a:List (Nat×α))(b:List (Nat×β))(ms:List Nat):Bool:=a.all fun p=>(lk p.1 b).isSome && !ms.elem p.1
def zYB:List Ob->List Ob->Nat
 | a::as,b::bs=>if a.beq b then zYB as bs+1 else 0
 | _,_=>0
def yNF(l m:List Ob):Nat:=zYB l.reverse m.reverse
def zAJ(c:DE)(b:Bool)(l:List Ob):List Ob:=if l.isEmpty then [] else [.when c b l]
def qPA(c:DE)(l m:List Ob):List Ob :=
 let n:=yNF l m
 zAJ c true (l.take (l.length-n))++(zAJ c false (m.take (m.length-n))++l.drop (l.length-n))
def xMF(P:Program)(c:DE)(s0 s1 s2:St):Option St :=
 if s1.lvl=s0.lvl/\s2.lvl=s0.lvl/\s1.nt=s0.nt/\s2.nt=s0.nt/\yWE s1.loops s0.loops=true/\yWE s2.loops s0.loops=true then
  let r:=qQA P c ⟨s1,s2,max s1.nx s2.nx⟩ s1.objs
  let q:=yUB P c r.2 s1.env
  if qKD s0.objs r.1 []&&qKD s0.vars q.2.s1.vars [] then
   some { env:=q.1,vars:=xXB q.2.s1 q.2.s2 q.2.s1.vars,objs:=r.1,loops:=s0.loops,obl:=qPA c s1.obl s2.obl++s0.obl,lvl:=s0.lvl,nx:=q.2.k,nt:=s0.nt }
  else none
 else none
def zOH(d:Nat)(e:DE):Pc->Option (Bool×Pc)
 | []=>none
 | (d',e',b)::r =>
  if d==d' then (if e.beq e' then some (b,r) else none) else
  match zOH d e r with
  | some (b',r')=>some (b',(d',e',b)::r')
  | none=>none
def zNH(d:Nat)(e:DE):List (Pc×St)->Option (List (Pc×St)×List (Pc×St))
 | []=>some ([],[])
 | p::r =>
  match zOH d e p.1,zNH d e r with
  | some (true,pc),some (t,f)=>some ((pc,p.2)::t,f)
  | some (false,pc),some (t,f)=>some (t,(pc,p.2)::f)
  | _,_=>none
def zXF(l:List (Pc×St)):Pc->Option (Nat×DE×List (Pc×St)×List (Pc×St))
 | []=>none
 | (d,e,_)::r =>
  match zNH d e l with
  | some (t,f)=>some (d,e,t,f)
  | none=>zXF l r
def zHE(P:Program)(st0:St):Nat->List (Pc×St)->Option St
 | _,[([],s)]=>some s
 | 0,_=>none
 | n+1,p::l =>
  match zXF (p::l) p.1 with
  | some (_,e,t,f) =>
   match zHE P st0 n t,zHE P st0 n f with
   | some s1,some s2=>xMF P e st0 s1 s2
   | _,_=>none
  | none=>none
 | _+1,[]=>none
def yFF(C:Cfg)(callF:CallF)(ops:Array Oper)(draw:Bool)(big:Nat)(st:St):Option St :=
 match (if draw then qTC C callF ops st.nx big ops.size ((yXB ops (qTD ops (List.replicate ops.size false)) 6 [] { st with obl:=[],nx:=st.nx+ops.size*big }).map fun p=>(List.replicate ops.size false,p))
  else yKB C callF ops st.nx big 0 ops.toList [([],{ st with obl:=[],nx:=st.nx+ops.size*big })]) with
 | some ps =>
  match zHE C.P { st with obl:=[],nx:=st.nx+ops.size*big } 8 ps with
  | some m=>some { m with obl:=m.obl++st.obl }
  | none=>none
 | none=>none
def qVC(C:Cfg)(callF:CallF)(ops:Array Oper)(big:Nat)(st:St):Option (St×St) :=
 match qTC C callF ops st.nx big ops.size ((yXB ops (qTD ops (List.replicate ops.size false)) 6 [] { st with obl:=[],nx:=st.nx+ops.size*big }).map fun p=>(List.replicate ops.size false,p)) with
 | some [([],a),([],b)]=>some ({ a with obl:=a.obl++st.obl },{ b with obl:=b.obl++st.obl })
 | _=>none
def ySK{α β:Type}(a:List (Nat×α))(b:List (Nat×β)):List Nat:=(b.filter fun p=>(lk p.1 a).isNone).map (·.1)
def delB{α:Type}:List Nat->List (Nat×α)->List (Nat×α)
 | [],l=>l
 | s::r,l=>del s (delB r l)
def cutS(st t:St):St:={ t with env:=delB (ySK st.env t.env) t.env,objs:=delB (ySK st.objs t.objs) t.objs,obl:=[] }
def unlike(a b:List (Nat×SV)):List Nat:=(b.filter fun p=>match lk p.1 a with|some v=>!(v.beq p.2)|none=>true).map (·.1)
def joinB(P:Program)(st t1 t2:St):Option St :=
 match xMF P (.k (.bool true)) { st with obl:=[] } (cutS st t1) (cutS st t2),xMF P (.k (.bool false)) { st with obl:=[] } (cutS st t1) (cutS st t2) with
 | some m1,some m2 =>
  let m:St:={ m2 with env:=delB (unlike m1.env m2.env) m2.env,obl:=(t1.obl.filter fun o=>!(t2.obl.any fun o'=>o.beq o'))++t2.obl }
  if leS m1 m&&leS m2 m then some m else none
 | _,_=>none
def qPG:Code->List Code
 | .seq a b=>qPG a++qPG b
 | c=>[c]
structure LoopP where
 bid:Nat
 tc:Nat
 ti:Nat
 tn:Nat
 body:Code
 inner:Nat
 kd:IntKind
 sl:List Nat
def headP:List Oper->Option (Nat×Nat×Nat×List Nat)
 | [h] =>
  match h.dst,h.op with
  | some tc,.binOp .lss _ (.tmp ti) (.tmp tn) _=>if h.guard.isNone/\ti≠tn/\tc≠ti/\tc≠tn then some (tc,ti,tn,[tc]) else none
  | _,_=>none
 | [m1,m2,h] =>
  match m1.dst,m1.op,m2.dst,m2.op,h.dst,h.op with
  | some a,.move (.tmp ti),some b,.move (.tmp tn),some tc,.binOp .lss _ (.tmp a') (.tmp b') _ =>
   if m1.guard.isNone/\m2.guard.isNone/\h.guard.isNone/\a'=a/\b'=b/\a≠b/\ti≠tn/\a≠ti/\a≠tn/\b≠ti/\b≠tn/\tc≠ti/\tc≠tn then some (tc,ti,tn,[tc,a,b]) else none
  | _,_,_,_,_,_=>none
 | _=>none
def tailP:List Oper->Option (Nat×IntKind×List Nat)
 | [a1,a2] =>
  match a1.dst,a1.op,a2.dst,a2.op with
  | some t2,.binOp .add _ (.tmp ti) (.const (.int kd 1)) _,some ti2,.move (.tmp t2')=>if a1.guard.isNone/\a2.guard.isNone/\ti2=ti/\t2'=t2/\t2≠ti then some (ti,kd,[t2]) else none
  | _,_,_,_=>none
 | [m,a1,a2] =>
  match m.dst,m.op,a1.dst,a1.op,a2.dst,a2.op with
  | some x,.move (.tmp ti),some y,.binOp .add _ (.tmp x') (.const (.int kd 1)) _,some ti2,.assign (.tmp y') =>
   if m.guard.isNone/\a1.guard.isNone/\a2.guard.isNone/\x'=x/\y'=y/\ti2=ti/\x≠ti/\y≠ti then some (ti,kd,[x,y]) else none
  | _,_,_,_,_,_=>none
 | _=>none
def zKC:Code->Option LoopP
 | .block bid (.loop b) =>
  match qPG b with
  | [.region _ hops false,.cond (.tmp tc) .skip (.exit bid'),.block inner body,.region _ aops false] =>
   match headP hops.toList,tailP aops.toList with
   | some (tc',ti,tn,l),some (ti',kd,m) =>
    if tc'=tc/\bid'=bid/\ti'=ti/\bid≠inner/\m.elem tn=false/\(kd = .i64∨kd = .i32) then some ⟨bid,tc,ti,tn,body,inner,kd,l++m⟩ else none
   | _,_=>none
  | _=>none
 | _=>none
def loopE(st:St)(lp:LoopP):Bool :=
 match lk lp.tn st.env with
 | some (.i _ (.f .len [.k _]))=>true
 | _=>false
def yTE:Code->Bool
 | .seq a b=>yTE a || yTE b
 | .region _ ops _=>ops.any fun o=>match o.op with
  | .call c=>(match c.callee with | .invoke _ _=>true|_=>false)
  | _=>false
 | .cond _ a b=>yTE a || yTE b
 | .loop a=>yTE a
 | .block _ a=>yTE a
 | _=>false
def yGK(st:St)(c:Code):Option LoopP :=
 match zKC c with
 | some lp=>if loopE st lp || yTE lp.body then none else some lp
 | none=>none
theorem qNH{st:St}{c:Code}{lp:LoopP}(h:yGK st c=some lp):zKC c=some lp:=by
 unfold yGK at h;split at h
 ·split at h
  ·cases h
  ·rename_i h1 _;rw[h1,h]
 ·cases h
def qEA{α:Type}:List Nat->List (Nat×α)->List (Nat×α)
 | [],l=>l
 | s::r,l=>del s (qEA r l)
def stillV(a b:St):SV->Bool
 | .x n =>
  match lk n a.vars,lk n b.vars with
  | some u,some v=>u.de.beq v.de
  | _,_=>true
 | _=>true
def qMB(skip:Nat)(a b:St):List (Nat×SV)->List Pl
 | []=>[]
 | (s,v)::r=>if s=skip then qMB skip a b r else
  match lk s a.env with
  | some w=>if v.beq w&&stillV a b v then qMB skip a b r else .slot s::qMB skip a b r
  | none=>qMB skip a b r
def qAC(x y:St)(o:Nat):Nat->List SV->List SV->List Pl
 | j,a::as,b::bs=>if a.beq b&&stillV x y a then qAC x y o (j+1) as bs else .cell o j::qAC x y o (j+1) as bs
 | _,_,_=>[]
def yVD(a b:St):List (Nat×List SV)->List Pl
 | []=>[]
 | (o,cs)::r=>(match lk o a.objs with|some ds=>qAC a b o 0 cs ds|none=>[])++yVD a b r
def qXB:Operand->List Nat
 | .tmp t=>[t]
 | _=>[]
def readsOp:Op->List Nat
 | .move x | .assign x | .box _ x | .load _ x | .nilCheck x | .unOp _ _ x | .convert _ _ x | .fieldAddr _ x _ | .field _ x _ | .extract x _=>qXB x
 | .pick a b c=>qXB a++qXB b++qXB c
 | .build _ l | .buildSlice _ _ l=>l.toList.flatMap fun p=>qXB p.2
 | .store _ x y | .binOp _ _ x y _ | .indexAddr _ x y | .index _ x y | .makeSlice _ x y=>qXB x++qXB y
 | .slice _ x a b c=>qXB x++(a.map qXB).getD []++(b.map qXB).getD []++(c.map qXB).getD []
 | .call c=>(match c.callee with | .value x=>qXB x | .invoke x _=>qXB x|_=>[])++c.args.toList.flatMap qXB
 | _=>[]
def zMC:Code->List Nat
 | .seq a b=>zMC a++zMC b
 | .region _ ops _=>ops.toList.flatMap fun o=>readsOp o.op
 | .cond c a b=>qXB c++zMC a++zMC b
 | .loop a=>zMC a
 | .block _ a=>zMC a
 | _=>[]
def isOwnX(st:St):SV->Bool
 | .x n=>match lk n st.vars with
  | some ⟨.own _,_⟩=>true
  | _=>false
 | _=>false
def zVC(st:St)(rs:List Nat):List (Nat×SV)->List (Nat×SV)
 | []=>[]
 | (s,v)::r=>if isOwnX st v && !rs.elem s&&st.env.any (fun p=>p.2.beq v&&rs.elem p.1) then del s (zVC st rs r) else (s,v)::zVC st rs r
def xIE(st:St):Pl->Option SV
 | .slot s=>lk s st.env
 | .cell o j=>do
  let cs <- lk o st.objs
  cs[j]?
def plPut(st:St)(v:SV):Pl->Option St
 | .slot s=>some { st with env:=upd s v st.env }
 | .cell o j=>do
  let cs <- lk o st.objs
  if j<cs.length then some { st with objs:=upd o (cs.set j v) st.objs } else none
inductive Cr where
 | int (k:IntKind)
 | bool
 | var (m:Nat) (vt:VT)
def Cr.sv(i:Nat):Cr->SV
 | .int k=>.i k (.v i)
 | .bool=>.b (.v i)
 | .var m _=>.x m
def xXC:VT->Bool
 | .own _=>true
 | .tags _=>true
 | _=>false
def xWB:VT->Bool
 | .set _=>true
 | .own _=>true
 | .tags _=>true
 | _=>false
def crOf(P:Program)(st s2:St)(m:Nat)(a b:SV):Option Cr :=
 match a,b with
 | .i k _,.i k' _=>if k=k' then some (.int k) else none
 | .b _,.b _=>some .bool
 | a,b =>
  match xPG P s2 b,xPG P st a with
  | some (some vt,_),_=>some (.var m vt)
  | _,some (some vt,_)=>some (.var m vt)
  | _,_=>none
def headS(P:Program)(s2:St)(lv:Nat):List Pl->St->Nat->Option (List (Pl×Cr)×St)
 | [],st,_=>some ([],st)
 | p::ps,st,j =>
  match xIE st p,xIE s2 p with
  | some a,some b =>
   match crOf P st s2 st.nx a b with
   | some cr =>
    let st1:=match cr with
     | .var _ vt=>match a with
      | .x n=>if xXC vt then yBJ st n else st
      | _=>st
     | _=>st
    let st2:=match cr with
     | .var m vt=>{ st1 with vars:=(m,⟨vt,.v (lv+2+j)⟩)::st1.vars,nx:=st1.nx+1 }
     | _=>st1
    match plPut st2 (cr.sv (lv+2+j)) p with
    | some st3 =>
     match headS P s2 lv ps st3 (j+1) with
     | some (cs,st4)=>some ((p,cr)::cs,st4)
     | none=>none
    | none=>none
   | none=>none
  | _,_=>none
def headH(lv:Nat):List (Pl×HK)->St->Nat->Option (List (Pl×Cr)×St)
 | [],st,_=>some ([],st)
 | (p,hk)::ps,st,j =>
  match xIE st p with
  | some a =>
   let cr:=match hk with
    | .int k=>Cr.int k
    | .bool=>.bool
    | .var vt=>.var st.nx vt
   let st1:=match hk with
    | .var vt=>match a with
     | .x n=>if xXC vt then yBJ st n else st
     | _=>st
    | _=>st
   let st2:=match hk with
    | .var vt=>{ st1 with vars:=(st1.nx,⟨vt,.v (lv+2+j)⟩)::st1.vars,nx:=st1.nx+1 }
    | _=>st1
   match plPut st2 (cr.sv (lv+2+j)) p with
   | some st3 =>
    match headH lv ps st3 (j+1) with
    | some (cs,st4)=>some ((p,cr)::cs,st4)
    | none=>none
   | none=>none
  | none=>none
def headT(B:St)(h:Hint):Option (List (Pl×Cr)×St):=headH B.lvl h.1 { B with lvl:=B.lvl+2+h.1.length+h.2,obl:=[] } 0
def xBJ(P:Program)(st:St)(d:DE):List (Nat×SV)->Option SV
 | []=>none
 | (_,v)::r =>
  match v with
  | .x n=>match deAny P st (.x n) with
   | some e=>if e.beq d then some v else xBJ P st d r
   | none=>xBJ P st d r
  | .xc n j=>match deAny P st (.xc n j) with
   | some e=>if e.beq d then some v else xBJ P st d r
   | none=>xBJ P st d r
  | _=>xBJ P st d r
def sliceTy(P:Program)(st:St):SV->Option TypeId
 | .x n=>do
  let vi <- lk n st.vars
  vi.vt.rest
 | .xc n j=>do
  let vi <- lk n st.vars
  let u <- vi.vt.rest
  (tys P u)[j]?
 | _=>none
mutual
def DE.shut(n:Nat):DE->Bool
 | .v i=>decide (i<n)
 | .k _=>true
 | .f _ as=>zQI n as
 | .fold lv s is _ _=>decide (lv<=n)&&s.shut n&&zQI n is
 | .wh lv _ is _=>decide (lv<=n)&&zQI n is
def zQI(n:Nat):List DE->Bool
 | []=>true
 | a::as=>a.shut n&&zQI n as
end
mutual
def SV.closed(n:Nat)(ms:List Nat):SV->Bool
 | .i _ e=>e.shut n
 | .b e=>e.shut n
 | .s e=>e.shut n
 | .fl e=>e.shut n
 | .c _=>true
 | .x m=>!ms.elem m
 | .xc m _=>!ms.elem m
 | .ra m _=>!ms.elem m
 | .oa _ _=>true
 | .osl _ _=>true
 | .ea m e _ _=>e.shut n && !ms.elem m
 | .agg l=>zOC n ms l
 | .tup l=>zOC n ms l
 | .w _ l=>zOC n ms l
def zOC(n:Nat)(ms:List Nat):List SV->Bool
 | []=>true
 | a::as=>a.closed n ms&&zOC n ms as
end
def carD(P:Program)(st:St):Cr->SV->Option (DE×Option Nat)
 | .int k,.i k' d=>if k=k' then some (d,none) else none
 | .bool,.b d=>some (d,none)
 | .var _ vt,.x n =>
  match lk n st.vars with
  | some vi=>if vi.vt=vt/\xWB vt=true then some (vi.de,some n) else none
  | none=>none
 | .var _ vt,.c .nils=>if xWB vt&&qOC P vt (.c .nils) then some (.k .nil,none) else none
 | .var _ vt,.c .nilm=>if xWB vt&&qOC P vt (.c .nilm) then some (.k .nil,none) else none
 | .var _ vt,.c .nilp=>if xWB vt&&qOC P vt (.c .nilp) then some (.k .nil,none) else none
 | _,_=>none
def zPJ(P:Program)(st:St):List (Pl×Cr)->Option (List (DE×Option Nat))
 | []=>some []
 | (p,cr)::r =>
  match xIE st p with
  | some b =>
   match carD P st cr b,zPJ P st r with
   | some d,some ds=>some (d::ds)
   | _,_=>none
  | none=>none
def qDA:List (Pl×Cr)->List (DE×Option Nat)->List Nat
 | (_,.var _ vt)::cs,(_,some n)::ds=>if xXC vt then n::qDA cs ds else qDA cs ds
 | _::cs,_::ds=>qDA cs ds
 | _,_=>[]
def qVB:List Nat->Bool
 | []=>true
 | n::r=>!r.elem n&&qVB r
def msOf:List (Pl×Cr)->List Nat
 | []=>[]
 | (_,.var m _)::r=>m::msOf r
 | _::r=>msOf r
def Pl.beq:Pl->Pl->Bool
 | .slot s,.slot t=>s==t
 | .cell o j,.cell p k=>o==p&&j==k
 | _,_=>false
def zXD(p:Pl):List (Pl×Cr)->Nat->Option (Nat×Cr)
 | [],_=>none
 | (q,cr)::r,i=>if p.beq q then some (i,cr) else zXD p r (i+1)
def xTG(lv:Nat)(ms taken:List Nat)(st:St):List (Nat×VI)->Bool
 | []=>true
 | (n,vi)::r=>(ms.elem n || decide (vi.vt = .dead) || (match lk n st.vars with
   | some vj=>decide (vj.vt=vi.vt)&&vj.de.beq vi.de&&vi.de.shut lv && !taken.elem n
   | none=>false))&&xTG lv ms taken st r
def yRI(lv:Nat)(ms:List Nat)(cars:List (Pl×Cr))(st:St):List (Nat×SV)->Bool
 | []=>true
 | (s,v)::r=>(match zXD (.slot s) cars 0 with
   | some (j,cr)=>v.beq (cr.sv (lv+2+j))
   | none=>match lk s st.env with
    | some u=>u.beq v&&v.closed lv ms
    | none=>false)&&yRI lv ms cars st r
def yOC(lv:Nat)(ms:List Nat)(cars:List (Pl×Cr))(o:Nat):Nat->List SV->List SV->Bool
 | _,[],[]=>true
 | i,v::vs,u::us=>(match zXD (.cell o i) cars 0 with
   | some (j,cr)=>v.beq (cr.sv (lv+2+j))
   | none=>u.beq v&&v.closed lv ms)&&yOC lv ms cars o (i+1) vs us
 | _,_,_=>false
def xDG(lv:Nat)(ms:List Nat)(cars:List (Pl×Cr))(st:St):List (Nat×List SV)->Bool
 | []=>true
 | (o,cs)::r=>(match lk o st.objs with
   | some us=>yOC lv ms cars o 0 cs us
   | none=>false)&&xDG lv ms cars st r
def lpBeq(a b:Lp):Bool:=a.row==b.row&&a.src.beq b.src&&a.el==b.el&&a.lvl==b.lvl
def xRE(lv:Nat)(ms:List Nat)(st:St):List Lp->Bool
 | []=>true
 | l::r=>st.loops.any (fun l'=>lpBeq l' l)&&decide (l.lvl<lv)&&l.src.closed lv ms && !ms.elem l.row&&xRE lv ms st r
def yRB(lv:Nat)(h:St):List (Pl×Cr)->Nat->Bool
 | [],_=>true
 | (_,.var m vt)::r,j=>(match lk m h.vars with
   | some vi=>decide (vi.vt=vt)&&vi.de.beq (.v (lv+2+j))
   | none=>false)&&yRB lv h r (j+1)
 | _::r,j=>yRB lv h r (j+1)
def fits(P:Program)(lv:Nat)(cars:List (Pl×Cr))(st h:St):Option (List DE) :=
 match zPJ P st cars with
 | some ds =>
  if qVB (qDA cars ds)&&xTG lv (msOf cars) (qDA cars ds) st h.vars&&yRI lv (msOf cars) cars st h.env&&xDG lv (msOf cars) cars st h.objs&&xRE lv (msOf cars) st h.loops&&st.nt==h.nt then
   some (ds.map (·.1)) else none
 | none=>none
abbrev ExecF:=List Code->St->Option (List Out)
def xKD{α:Type}(e:DE):List (List (DE×Bool)×α)->Option (List (List (DE×Bool)×α)×List (List (DE×Bool)×α))
 | []=>some ([],[])
 | (pc,s)::r =>
  match pc,xKD e r with
  | (e',b)::pc',some (t,f)=>if e.beq e' then (if b then some ((pc',s)::t,f) else some (t,(pc',s)::f)) else none
  | _,_=>none
def gath(P:Program)(st0:St):Nat->List (List (DE×Bool)×St)->Option St
 | _,[(_,s)]=>some s
 | n+1,((e,b)::pc,s)::r =>
  match xKD e (((e,b)::pc,s)::r) with
  | some (t,[])=>gath P st0 n t
  | some ([],f)=>gath P st0 n f
  | some (t,f) =>
   match gath P st0 n t,gath P st0 n f with
   | some s1,some s2=>xMF P e st0 s1 s2
   | _,_=>none
  | none=>none
 | _,_=>none
def mkIf(e a b:DE):DE :=
 match a,b with
 | .k (.bool true),.k (.bool false)=>e
 | .k (.bool false),.k (.bool true)=>mkf .not [e]
 | a,b=>.f .ite [e,a,b]
def yVH:Nat->List (List (DE×Bool)×Bool)->Option DE
 | n,l =>
  if l.all (·.2) then some (.k (.bool true)) else
  if l.all (!·.2) then some (.k (.bool false)) else
  match n,l with
  | n+1,((e,b)::pc,x)::r =>
   match xKD e (((e,b)::pc,x)::r) with
   | some (t,f) =>
    match yVH n t,yVH n f with
    | some a,some b=>some (mkIf e a b)
    | _,_=>none
   | none=>none
  | _,_=>none
def zSB:Ex->Bool
 | .norm=>true
 | _=>false
def yZC(outs:List Out):List (List (DE×Bool)×St):=(outs.filter fun o=>zSB o.ex).map fun o=>(o.pc,o.st)
def yFE(outs:List Out):List (List (DE×Bool)×St):=(outs.filter fun o=>!zSB o.ex).map fun o=>(o.pc,o.st)
def yZE:List Out->Option (Option Ex)
 | []=>some none
 | o::r =>
  match yZE r with
  | none=>none
  | some none=>some (if zSB o.ex then none else some o.ex)
  | some (some x)=>if zSB o.ex || decide (o.ex=x) then some (some x) else none
def zFE(lv:Nat)(s:St):List (Nat×VI)->Option (List (Nat×VI))
 | []=>some []
 | (n,_)::r =>
  match lk n s.vars,zFE lv s r with
  | some vi,some r'=>some ((n,if vi.de.shut lv then vi else ⟨.dead,.k .nil⟩)::r')
  | _,_=>none
def zEE(lv:Nat)(s:St):List (Nat×List SV)->Option (List (Nat×List SV))
 | []=>some []
 | (o,_)::r =>
  match lk o s.objs,zEE lv s r with
  | some cs,some r'=>if zOC lv [] cs then some ((o,cs)::r') else none
  | _,_=>none
def yHE(lv:Nat):List (Nat×SV)->List (Nat×SV)
 | []=>[]
 | (s,v)::r=>if v.closed lv [] then (s,v)::yHE lv r else del s (yHE lv r)
def lpIn(l:Lp):List Lp->Bool
 | []=>false
 | x::r=>(x.row==l.row&&x.src.beq l.src&&x.el==l.el&&x.lvl==l.lvl) || lpIn l r
def zLL(B s:St)(obl:List Ob):Option St :=
 match zFE B.lvl s B.vars,zEE B.lvl s B.objs with
 | some vs,some os =>
  if B.loops.all (fun l=>lpIn l s.loops&&decide (l.lvl<B.lvl)&&l.src.closed B.lvl [])&&s.nt==B.nt then
   some { env:=yHE B.lvl s.env,vars:=vs,objs:=os,loops:=B.loops,obl:=obl,lvl:=B.lvl,nx:=s.nx,nt:=B.nt }
  else none
 | _,_=>none
def zSF(i:Nat)(x:Ex):Ex:=if x = .exit i then .norm else x
def qMG(lv:Nat)(e:TypeId)(src:SV)(ti r:Nat)(h0:St):Option St :=
 match newV h0 ⟨.row e,.v (lv+1)⟩ r with
 | some s1=>if src.men r then none else some { s1 with env:=upd ti (.i .i64 (.v lv)) s1.env,loops:=⟨r,src,e,lv⟩::s1.loops,nx:=r+1 }
 | none=>none
def yJG:Nat->List DE
 | 0=>[]
 | n+1=>yJG n++[.v n]
def pdOf(nm:Option Nat)(lv:Nat)(d:DE)(inits bodies:List DE)(j:Nat):DE :=
 match nm with
 | none=>.fold lv d inits bodies j
 | some n=>.f (.get j) [.f (.ext n) (yJG lv)]
def nmOb(nm:Option Nat)(lv:Nat)(d:DE)(inits bodies:List DE):List Ob :=
 match nm with
 | none=>[]
 | some n=>[.defn n lv d inits bodies]
def Cr.post(pd:Nat->DE)(j:Nat):Cr->SV
 | .int k=>.i k (pd j)
 | .bool=>.b (pd j)
 | .var m _=>.x m
def xLA(pd:Nat->DE):List (Pl×Cr)->Nat->List (Nat×VI)->List (Nat×VI)
 | [],_,vs=>vs
 | (_,.var m vt)::r,j,vs=>upd m ⟨vt,pd j⟩ (xLA pd r (j+1) vs)
 | _::r,j,vs=>xLA pd r (j+1) vs
def zEB(pd:Nat->DE)(cars:List (Pl×Cr)):List (Nat×SV)->List (Nat×SV)
 | []=>[]
 | (s,v)::r=>(s,match zXD (.slot s) cars 0 with
   | some (j,cr)=>cr.post pd j
   | none=>v)::zEB pd cars r
def zDB(pd:Nat->DE)(cars:List (Pl×Cr))(o:Nat):Nat->List SV->List SV
 | _,[]=>[]
 | i,v::r=>(match zXD (.cell o i) cars 0 with
   | some (j,cr)=>cr.post pd j
   | none=>v)::zDB pd cars o (i+1) r
def zMB(pd:Nat->DE)(cars:List (Pl×Cr)):List (Nat×List SV)->List (Nat×List SV)
 | []=>[]
 | (o,cs)::r=>(o,zDB pd cars o 0 cs)::zMB pd cars r
def isSV:Option SV->SV->Bool
 | some v,w=>v.beq w
 | none,_=>false
def qHB(P:Program)(nm:Option Nat)(B h0 h:St)(cars:List (Pl×Cr))(d:DE)(lp:LoopP)(outs:List Out):Option (List Out) :=
 let lv:=B.lvl
 match fits P lv cars B h0 with
 | some inits =>
  match yZE outs with
  | some none =>
   if h0.lvl==lv+2+cars.length then
    match gath P h 12 (yZC outs) with
    | some s2 =>
     if isSV (lk lp.ti s2.env) (.i lp.kd (.v lv)) then
      match fits P lv cars s2 h0 with
      | some bodies =>
       some [⟨[],.norm,{ env:=zEB (pdOf nm lv d inits bodies) cars h0.env,vars:=xLA (pdOf nm lv d inits bodies) cars 0 h0.vars,objs:=zMB (pdOf nm lv d inits bodies) cars h0.objs,loops:=h0.loops,obl:=nmOb nm lv d inits bodies ++ .all d inits bodies s2.obl::B.obl,lvl:=lv,nx:=s2.nx,nt:=h0.nt }⟩]
      | none=>none
     else none
    | none=>none
   else none
  | some (some x) =>
   if h0.lvl==lv+2+cars.length+1 then
    match gath P h 12 (yZC outs),gath P h 12 (yFE outs),yVH 20 (outs.map fun o=>(o.pc,!zSB o.ex)) with
    | some s2,some s3,some stop =>
     if isSV (lk lp.ti s2.env) (.i lp.kd (.v lv)) then
      match fits P lv cars s2 h0 with
      | some bodies =>
       let inits':=inits++[.k (.bool false)]
       let bodies':=bodies++[.f .ite [.v (lv+2+cars.length),.k (.bool true),stop]]
       let obl':=nmOb nm lv d inits' bodies' ++ .all d inits' bodies' [.when (.v (lv+2+cars.length)) false (qPA stop s3.obl s2.obl)]::B.obl
       match zLL B s3 obl' with
       | some W =>
        some [⟨[(pdOf nm lv d inits' bodies' cars.length,false)],.norm,{ env:=zEB (pdOf nm lv d inits' bodies') cars h0.env,vars:=xLA (pdOf nm lv d inits' bodies') cars 0 h0.vars,objs:=zMB (pdOf nm lv d inits' bodies') cars h0.objs,loops:=h0.loops,obl:=obl',lvl:=lv,nx:=s2.nx,nt:=h0.nt }⟩,
         ⟨[(pdOf nm lv d inits' bodies' cars.length,true)],zSF lp.bid x,W⟩]
       | none=>none
      | none=>none
     else none
    | _,_,_=>none
   else none
  | none=>none
 | none=>none
def frz(F stop:DE)(lv:Nat):Nat->List DE->List DE->List DE
 | j,e::es,b::bs=>.f .ite [F,.f .ite [stop,e,b],.v (lv+2+j)]::frz F stop lv (j+1) es bs
 | _,_,_=>[]
def giOf(s:St):List (Nat×SV)->List (Nat×Nat×DE)
 | []=>[]
 | (k,.x m)::r =>
  match lk m s.vars with
  | some ⟨.gi,d⟩=>if isSV (lk k s.env) (.x m) then (k,m,d)::giOf s r else giOf s r
  | _=>giOf s r
 | _::r=>giOf s r
def qFD(D:DE):Nat->List (Nat×Nat×DE)->St->Option St
 | _,[],T=>some T
 | i,(k,_)::r,T =>
  match newV T ⟨.gi,.f (.get i) [D]⟩ T.nx with
  | some T1=>qFD D (i+1) r { T1 with env:=upd k (.x T.nx) T1.env,nx:=T.nx+1 }
  | none=>none
def zPD(P:Program)(nm:Option Nat)(B h0 h:St)(cars:List (Pl×Cr))(d:DE)(lp:LoopP)(outs:List Out):Option (List Out) :=
 let lv:=B.lvl
 match fits P lv cars B h0 with
 | some inits =>
  match yZE outs with
  | some (some x) =>
   if h0.lvl==lv+2+cars.length+1 then
    match gath P h 12 (yZC outs),gath P h 12 (yFE outs),yVH 20 (outs.map fun o=>(o.pc,!zSB o.ex)) with
    | some s2,some s3,some stop =>
     if isSV (lk lp.ti s2.env) (.i lp.kd (.v lv)) then
      let es:=giOf s3 s3.env
      let hz:St:={ h0 with env:=qEA (es.map (·.1)) h0.env }
      match fits P lv cars s2 h0,fits P lv cars s3 hz,fits P lv cars B hz with
      | some bodies,some ends,some _ =>
       let V:=DE.v (lv+2+cars.length)
       let F:=DE.f .isNil [V]
       let inits':=inits++[.k .nil]
       let bodies':=frz F stop lv 0 ends bodies++[.f .ite [F,.f .ite [stop,.f .mkrow (es.map (·.2.2)),.k .nil],V]]
       let obl':=nmOb nm lv d inits' bodies' ++ .all d inits' bodies' [.when F true (qPA stop s3.obl s2.obl)]::B.obl
       let T:St:={ env:=zEB (pdOf nm lv d inits' bodies') cars h0.env,vars:=xLA (pdOf nm lv d inits' bodies') cars 0 h0.vars,objs:=zMB (pdOf nm lv d inits' bodies') cars h0.objs,loops:=h0.loops,obl:=obl',lvl:=lv,nx:=max s2.nx s3.nx,nt:=h0.nt }
       match qFD (pdOf nm lv d inits' bodies' cars.length) 0 es { T with env:=zEB (pdOf nm lv d inits' bodies') cars hz.env } with
       | some T' =>
        some [⟨[(.f .isNil [pdOf nm lv d inits' bodies' cars.length],false)],zSF lp.bid x,T'⟩,⟨[(.f .isNil [pdOf nm lv d inits' bodies' cars.length],true)],.norm,T⟩]
       | none=>none
      | _,_,_=>none
     else none
    | _,_,_=>none
   else none
  | _=>none
 | none=>none
def yXC(P:Program)(nm:Option Nat)(B h0 h:St)(cars:List (Pl×Cr))(d:DE)(lp:LoopP)(outs:List Out):Option (List Out) :=
 match qHB P nm B h0 h cars d lp outs with
 | some r=>some r
 | none=>zPD P nm B h0 h cars d lp outs
def yGD(B h0:St)(cars:List (Pl×Cr))(tn:SV)(lp:LoopP):Bool :=
 h0.obl.isEmpty&&qVB (msOf cars)&&yRB B.lvl h0 cars 0 &&
  (lk lp.ti h0.env).isNone&&lp.sl.all (fun s=>(lk s h0.env).isNone&&decide (s<h0.nt))&&isSV (lk lp.tn h0.env) tn &&
  decide (lp.ti<h0.nt)&&qKD B.vars h0.vars (msOf cars)&&qKD B.objs h0.objs []
def yHK(P:Program)(nm:Option Nat)(exec:ExecF)(B h0:St)(cars:List (Pl×Cr))(src:SV)(d:DE)(t e:TypeId)(lp:LoopP):Option (List Out) :=
 match svT P h0 t src,P.info? e with
 | some d',some i =>
  if (!isU8 P e || i.size==1)&&d'.beq d&&d.shut B.lvl&&src.closed B.lvl (msOf cars)&&yGD B h0 cars (.i .i64 (.f .len [d])) lp&&decide (lp.kd = .i64) then
   match qMG B.lvl e src lp.ti h0.nx h0 with
   | some h =>
    match exec [.block lp.inner lp.body] h with
    | some outs=>yXC P nm B h0 h cars d lp outs
    | none=>none
   | none=>none
  else none
 | _,_=>none
def yOE(kd:IntKind)(lv ti:Nat)(h0:St):St:={ h0 with env:=upd ti (.i kd (.v lv)) h0.env }
def zCH(P:Program)(nm:Option Nat)(exec:ExecF)(B h0:St)(cars:List (Pl×Cr))(e:DE)(lp:LoopP):Option (List Out) :=
 if e.shut B.lvl&&yGD B h0 cars (.i lp.kd e) lp then
  match exec [.block lp.inner lp.body] (yOE lp.kd B.lvl lp.ti h0) with
  | some outs=>yXC P nm B h0 (yOE lp.kd B.lvl lp.ti h0) cars (.f .iota [e]) lp outs
  | none=>none
 else none
def extra(outs:List Out):Nat:=if outs.all (fun o=>zSB o.ex) then 0 else 1
def qMJ(P:Program)(skip:Nat)(B pr:St)(outs:List Out):Option (List (Pl×Cr)×St) :=
 match gath P pr 12 (yZC outs) with
 | some s1 =>
  let pls:=qMB skip s1 B B.env++yVD s1 B B.objs
  headS P s1 B.lvl pls { B with lvl:=B.lvl+2+pls.length+extra outs,obl:=[],nx:=s1.nx } 0
 | none=>none
def hintAt(hn:Nat->Nat->Nat->Option Hint)(B:St)(bid:Nat):Option Hint :=
 match hn B.nt bid B.lvl with
 | some h=>some h
 | none=>hn B.nt bid (B.lvl+4096*B.nx)
def headN(P:Program)(hn:Nat->Nat->Nat->Option Hint)(exec:ExecF)(B:St)(lp:LoopP):Option (List (Pl×Cr)×St) :=
 match hintAt hn B lp.bid with
 | some h=>headT B h
 | none =>
 match exec [.block lp.inner lp.body] (yOE lp.kd B.lvl lp.ti { B with lvl:=B.lvl+2,obl:=[] }) with
 | some outs=>qMJ P lp.ti B (yOE lp.kd B.lvl lp.ti { B with lvl:=B.lvl+2,obl:=[] }) outs
 | none=>none
def headOf(P:Program)(hn:Nat->Nat->Nat->Option Hint)(exec:ExecF)(B:St)(src:SV)(e:TypeId)(lp:LoopP):Option (List (Pl×Cr)×St) :=
 match hintAt hn B lp.bid with
 | some h=>headT B h
 | none =>
 match qMG B.lvl e src lp.ti B.nx { B with lvl:=B.lvl+2,obl:=[] } with
 | some probe =>
  match exec [.block lp.inner lp.body] probe with
  | some outs=>qMJ P lp.ti B probe outs
  | none=>none
 | none=>none
def nameOf(hn:Nat->Nat->Nat->Option Hint)(B:St)(lp:LoopP):Option Nat :=
 match hn 0 999995 0 with
 | some _=>some (((B.nt*4096+lp.bid)*4096+B.lvl)+1000000)
 | none=>none
def loopS(P:Program)(hn:Nat->Nat->Nat->Option Hint)(exec:ExecF)(st0:St)(lp:LoopP):Option (List Out) :=
 match lk lp.ti st0.env,lk lp.tn st0.env with
 | some (.i .i64 (.k (.int 0))),some (.i .i64 (.f .len [d])) =>
  match xBJ P st0 d st0.env with
  | some src =>
   match sliceTy P (settle st0 src) src with
   | some t =>
    match P.underlying t with
    | some (.slice e) =>
     match headOf P hn exec { settle st0 src with env:=zVC st0 (zMC lp.body) (qEA (lp.ti::lp.sl) (settle st0 src).env) } src e lp with
     | some (cars,h0)=>yHK P (nameOf hn st0 lp) exec { settle st0 src with env:=zVC st0 (zMC lp.body) (qEA (lp.ti::lp.sl) (settle st0 src).env) } h0 cars src d t e lp
     | none=>none
    | _=>none
   | none=>none
  | none=>none
 | some (.i ka (.k (.int 0))),some (.i kb e) =>
  if ka=lp.kd/\kb=lp.kd then
  match headN P hn exec { st0 with env:=zVC st0 (zMC lp.body) (qEA (lp.ti::lp.sl) st0.env) } lp with
  | some (cars,h0)=>zCH P (nameOf hn st0 lp) exec { st0 with env:=zVC st0 (zMC lp.body) (qEA (lp.ti::lp.sl) st0.env) } h0 cars e lp
  | none=>none
  else none
 | _,_=>none
def whileOk(i:Nat):List Out->Bool
 | []=>true
 | o::r=>(zSB o.ex || decide (o.ex = .exit i))&&whileOk i r
def zNC(lv:Nat):Nat->List DE
 | 0=>[]
 | n+1=>zNC lv n++[.v (lv+2+n)]
def loopWB(P:Program)(exec:ExecF)(B:St)(i:Nat)(b:Code):Option St :=
 let lv:=B.lvl
 match exec [b] { B with lvl:=lv+2,obl:=[] } with
 | none=>none
 | some outs0 =>
  match gath P { B with lvl:=lv+2,obl:=[] } 12 (yZC outs0) with
  | none=>none
  | some s1 =>
   let pls:=qMB B.nt s1 B B.env++yVD s1 B B.objs
   match headS P s1 lv pls { B with lvl:=lv+2+pls.length,obl:=[],nx:=s1.nx } 0 with
   | none=>none
   | some (cars,h0) =>
    match exec [b] h0 with
    | none=>none
    | some outs =>
     if whileOk i outs&&h0.obl.isEmpty&&qVB (msOf cars)&&yRB lv h0 cars 0&&h0.lvl==lv+2+cars.length&&qKD B.vars h0.vars (msOf cars)&&qKD B.objs h0.objs [] then
      match gath P h0 12 (yZC outs),gath P h0 12 (yFE outs),yVH 20 (outs.map fun o=>(o.pc,zSB o.ex)) with
      | some s2,some s3,some go =>
       match fits P lv cars B h0,fits P lv cars s2 h0,fits P lv cars s3 h0 with
       | some inits,some bodies,some ends =>
        if zRB ends (zNC lv cars.length) then
         let n:=DE.wh lv go inits bodies
         let d:=DE.f .iota [n]
         some { env:=zEB (pdOf none lv d inits bodies) cars h0.env,vars:=xLA (pdOf none lv d inits bodies) cars 0 h0.vars,objs:=zMB (pdOf none lv d inits bodies) cars h0.objs,loops:=h0.loops,obl:=.term lv go inits bodies :: .all (.f .iotaS [n]) inits bodies (qPA go s2.obl s3.obl)::B.obl,lvl:=lv,nx:=max s2.nx s3.nx,nt:=h0.nt }
        else none
       | _,_,_=>none
      | _,_,_=>none
     else none
def loopW(P:Program)(exec:ExecF)(st0:St)(i:Nat)(b:Code):Option St:=loopWB P exec { st0 with env:=zVC st0 (zMC b) st0.env } i b
def big(dp:Nat):Nat:=4096 ^ dp
def resS(P:Program)(st:St):ResultVar->Option SV
 | .tmp t=>lk t st.env
 | .cell a t=>do
  let p <- lk a st.env
  qMH P st t p
def zHI(P:Program)(st:St):List ResultVar->Option (List SV)
 | []=>some []
 | r::rs=>do
  let a <- resS P st r
  let as <- zHI P st rs
  some (a::as)
def xWC:Nat->List SV->List (Nat×SV)
 | _,[]=>[]
 | i,a::as=>(i,a)::xWC (i+1) as
mutual
def qVF(st:St):SV->Bool
 | .x n=>(lk n st.vars).isSome
 | .xc n _=>(lk n st.vars).isSome
 | .ra n _=>(lk n st.vars).isSome
 | .oa o _=>(lk o st.objs).isSome
 | .osl o _=>(lk o st.objs).isSome
 | .ea n _ _ _=>(lk n st.vars).isSome
 | .agg l=>yTC st l
 | .tup l=>yTC st l
 | .w _ l=>yTC st l
 | _=>true
def yTC(st:St):List SV->Bool
 | []=>true
 | a::as=>qVF st a&&yTC st as
end
def qCE:List Out->Bool
 | []=>true
 | o::r=>(match o.ex with | .norm=>true | .ret=>true|_=>false)&&qCE r
def asPc(o:Out):Pc×St:=(o.pc.map fun p=>(0,p.1,p.2),o.st)
def tupS:List SV->SV
 | [r]=>r
 | rs=>.tup rs
def yUG(C:Cfg)(exec:ExecF)(f:FuncId)(args:List SV)(st:St):Option (SV×St) :=
 match C.P.funcs[f]? with
 | none=>none
 | some fn =>
  match fn.body with
  | none=>none
  | some body =>
   if args.length<=fn.ntmps/\st.env.all (fun p=>qVF st p.2) then
    match exec [body] { st with env:=xWC 0 args,nt:=fn.ntmps,obl:=[] } with
    | none=>none
    | some outs =>
     if qCE outs then
      match zHE C.P { st with env:=xWC 0 args,nt:=fn.ntmps,obl:=[] } 12 (outs.map asPc) with
      | none=>none
      | some s =>
       match zHI C.P s fn.results.toList with
       | none=>none
       | some rs=>some (tupS rs,{ s with env:=st.env,nt:=st.nt,obl:=s.obl++st.obl })
     else none
   else none
def qNC(st0 st:St)(o:Nat):List Nat:=(st.objs.filter fun p=>(lk p.1 st0.objs).isNone&&zOF o p.2).map (·.1)
def yWJ(P:Program)(st0:St)(t:TypeId)(o k:Nat)(st:St):Option St :=
 match lk o st0.objs,lk o st.objs,P.underlying t with
 | none,some cs,some (.slice e) =>
  match P.info? e with
  | some i =>
   if isU8 P e=false/\cs.length=k*i.size/\k<=1000 then
    match zLI P (settles st cs) e i.size k cs with
    | some ds =>
     match newV { settles st cs with objs:=qEA (o::qNC st0 st o) st.objs } ⟨.set t,.f .mklist ds⟩ st.nx with
     | some s=>some { s with nx:=st.nx+1 }
     | none=>none
    | none=>none
   else none
  | none=>none
 | _,_,_=>none
def yAE(P:Program)(st0:St):List TypeId->List SV->List SV->St->Option (List SV×St)
 | t::ts,done,s::l,st =>
  match s with
  | .osl o k =>
   if mens st.nx (done++l) then none else
   match yWJ P st0 t o k st with
   | some st1=>yAE P st0 ts (done++[.x st.nx]) l st1
   | none=>none
  | s=>yAE P st0 ts (done++[s]) l st
 | [],done,[],st=>some (done,st)
 | _,_,_,_=>none
def isOsl:SV->Bool
 | .osl _ _=>true
 | _=>false
def restR(P:Program)(st0:St)(t:TypeId)(s:SV)(st:St):Option (SV×St) :=
 match s with
 | .agg l =>
  if l.any isOsl then
   match yAE P st0 (tys P t) [] l st with
   | some (l',st')=>some (.agg l',st')
   | none=>none
  else none
 | _=>none
def yZD(C:Cfg)(exec:ExecF)(f:FuncId)(args:List SV)(st:St):Option (SV×St) :=
 match yUG C exec f args st with
 | some (s,st') =>
  match C.P.funcs[f]? with
  | some fn =>
   match restR C.P st (fn.resultTypes.getD 0 0) s st' with
   | some r=>some r
   | none=>some (s,st')
  | none=>none
 | none=>none
def yTD(f:St->Option (List Out)):List Out->Option (List Out)
 | []=>some []
 | o::r =>
  match yTD f r with
  | none=>none
  | some r' =>
   match o.ex with
   | .norm =>
    match f o.st with
    | some l=>some (l.map (fun q=>⟨o.pc++q.pc,q.ex,q.st⟩)++r')
    | none=>none
   | _=>some (o::r')
def xNB(i:Nat):List Out->List Out
 | []=>[]
 | o::r=>(if o.ex = .exit i then ⟨o.pc,.norm,o.st⟩ else o)::xNB i r
def yFH(run:List Code->St->Option (List Out))(c:Code)(again:List Out->Option (List Out)):List Out->Option (List Out)
 | []=>some []
 | o::r =>
  match yFH run c again r with
  | none=>none
  | some r' =>
   match o.ex with
   | .goto l =>
    match findLabel c l with
    | some rest =>
     match run [rest] o.st with
     | some o2 =>
      match again o2 with
      | some o3=>some (o3.map (fun q=>⟨o.pc++q.pc,q.ex,q.st⟩)++r')
      | none=>none
     | none=>none
    | none=>none
   | _=>some (o::r')
def yGH(run:List Code->St->Option (List Out))(c:Code):Nat->List Out->Option (List Out)
 | 0=>fun _=>none
 | k+1=>yFH run c (yGH run c k)
def joinS(P:Program)(d:DE)(st:St):List Out->List Out->Option St
 | [⟨[],.norm,s1⟩],[⟨[],.norm,s2⟩]=>xMF P d st s1 s2
 | _,_=>none
def joinF(C:Cfg)(d:DE)(st:St)(o1 o2:List Out):Option St:=if flagN C 999997 st then none else joinS C.P d st o1 o2
def yZF(run:List Code->St->Option (List Out))(b:Code):Nat->St->Option (List Out)
 | 0,_=>none
 | k+1,st =>
  match run [b] st with
  | some o=>yTD (yZF run b k) o
  | none=>none
def deadOk(C:Cfg):Bool:=(C.hint 0 999999 0).isSome
def qGF(d:DE):Ob:=.when d true [.nz (.k (.int 0))]
def exec(C:Cfg):Nat->Nat->List Code->St->Option (List Out)
 | 0,_,_,_=>none
 | n+1,dp,l,st =>
  match l with
  | []=>some [⟨[],.norm,st⟩]
  | c::r =>
   match c with
   | .skip=>exec C n dp r st
   | .seq a b=>exec C n dp (a::b::r) st
   | .ret=>some [⟨[],.ret,st⟩]
   | .exit i=>some [⟨[],.exit i,st⟩]
   | .region _ ops draw =>
    match yFF C (yZD C (exec C n (dp-1))) ops draw (big dp) st with
    | some st'=>exec C n dp r st'
    | none =>
     match draw,qVC C (yZD C (exec C n (dp-1))) ops (big dp) st with
     | true,some (s1,s2) =>
      match exec C n dp r s1 with
      | some [⟨[],.norm,t1⟩] =>
       match exec C n dp r { s2 with nx:=max t1.nx s2.nx } with
       | some [⟨[],.norm,t2⟩] =>
        match joinB C.P st t1 t2 with
        | some m=>some [⟨[],.norm,m⟩]
        | none=>none
       | _=>none
      | _=>none
     | _,_=>none
   | .cond c t e =>
    match opd st c with
    | some (.b (.k (.bool b)))=>exec C n dp ((if b then t else e)::r) st
    | some (.b d) =>
     match exec C n dp [t] { st with obl:=[] } with
     | none=>none
     | some o1 =>
      match exec C n dp [e] { st with obl:=[],nx:=o1.foldl (fun m o=>max m o.st.nx) st.nx } with
      | none=>none
      | some o2 =>
       match joinF C d st o1 o2 with
       | some m=>exec C n dp r m
       | none =>
        match yTD (exec C n dp r) (o1.map (fun o=>⟨(d,true)::o.pc,o.ex,{ o.st with obl:=o.st.obl++st.obl }⟩)++o2.map (fun o=>⟨(d,false)::o.pc,o.ex,{ o.st with obl:=o.st.obl++st.obl }⟩)) with
        | some l=>some l
        | none=>if deadOk C then yTD (exec C n dp r) (o2.map (fun o=>⟨o.pc,o.ex,{ o.st with obl:=o.st.obl++(qGF d::st.obl) }⟩)) else none
    | _=>none
   | .block i b =>
    match yGK st (.block i b) with
    | some lp =>
     match loopS C.P C.hint (exec C n dp) st lp with
     | some o=>yTD (exec C n dp r) o
     | none=>none
    | none =>
     match b with
     | .loop b' =>
      if yTE b' then
       match yZF (exec C n dp) b' 4 st with
       | some o=>yTD (exec C n dp r) (xNB i o)
       | none=>none
      else
      match loopW C.P (exec C n dp) st i b' with
      | some st'=>exec C n dp r st'
      | none =>
       match exec C n dp [b'] st with
       | some o=>if o.all (fun q=>decide (q.ex = .exit i)) then yTD (exec C n dp r) (xNB i o) else none
       | none=>none
     | b =>
      match exec C n dp [b] st with
      | some o=>yTD (exec C n dp r) (xNB i o)
      | none=>none
   | .label _=>exec C n dp r st
   | .goto l=>some [⟨[],.goto l,st⟩]
   | .scope b =>
    match exec C n dp [b] st with
    | some o =>
     match yGH (exec C n dp) b 4 o with
     | some o'=>yTD (exec C n dp r) o'
     | none=>none
    | none=>none
   | _=>none
end Go.Dx
namespace Go.Dx
open Go
structure Gh where
 rv:Nat->Value
 rb:Nat->Nat
 rh:Nat->Nat×Nat
 ex:Nat->Prop
def qFC(k:Nat):Value->Value
 | .slice (some a) _ _=>.pointer (some ⟨a.block,a.off+k,none⟩)
 | _=>.pointer (some ⟨0,k,none⟩)
theorem qAH(k:Nat)(v:Value):∃a,qFC k v = .pointer a:=by
 unfold qFC;split
 ·exact⟨_,rfl⟩
 ·exact⟨_,rfl⟩
theorem zJD(v:Value):∃b o,∀k,qFC k v = .pointer (some ⟨b,o+k,none⟩):=by
 unfold qFC;split
 ·exact⟨_,_,fun k=>rfl⟩
 ·exact⟨0,0,fun k=>by rw[Nat.zero_add]⟩
mutual
noncomputable def SV.den(X:Nat->List D->D)(J:List D)(g:Gh):SV->Value
 | .i k e=>.int k (e.eval X J).asInt
 | .b e=>.bool (e.eval X J).asBool
 | .s e=>.string ⟨(e.eval X J).asStr.toArray⟩
 | .fl e=>.float .f64 (e.eval X J).asNat
 | .c c=>c.den
 | .x n=>g.rv n
 | .xc n j=>(g.rv n).cells.getD j undef
 | .agg l=>.agg (dens X J g l).toArray
 | .oa o off=>.pointer (some ⟨g.rb o,off,none⟩)
 | .osl o n=>.slice (some ⟨g.rb o,0,none⟩) n n
 | .ea n e off sz=>qFC ((e.eval X J).asInt.toNat*sz+off) (g.rv n)
 | .ra n off=>.pointer (some ⟨(g.rh n).1,(g.rh n).2+off,none⟩)
 | .tup l=>.tuple (dens X J g l).toArray
 | .w k l=>k.den (dens X J g l)
noncomputable def dens(X:Nat->List D->D)(J:List D)(g:Gh):List SV->List Value
 | []=>[]
 | a::as=>a.den X J g::dens X J g as
end
theorem zRA(X:Nat->List D->D)(J:List D)(g:Gh):∀l,dens X J g l=l.map (SV.den X J g)
 | []=>by simp[dens]
 | a::as=>by simp[dens,zRA X J g as]
def SV.okk(X:Nat->List D->D)(J:List D):SV->Prop
 | .i k e=>∃n,e.eval X J = .int n/\(Lit.int k n).wf=true
 | .b e=>∃b,e.eval X J = .bool b
 | .s e=>∃s,e.eval X J = .str s/\s.length<=maxLen
 | .fl e=>∃n,e.eval X J = .flt n
 | _=>True
mutual
def SV.ok(X:Nat->List D->D)(J:List D):SV->Prop
 | .agg l=>oks X J l
 | .tup l=>oks X J l
 | .w _ l=>oks X J l
 | s=>s.okk X J
def oks(X:Nat->List D->D)(J:List D):List SV->Prop
 | []=>True
 | a::as=>a.ok X J/\oks X J as
end
theorem yHA{X:Nat->List D->D}{J:List D}:∀ {l:List SV},oks X J l ↔ ∀a∈l,a.ok X J
 | []=>by simp[oks]
 | a::as=>by simp[oks,yHA (l:=as)]
inductive OwnD (P:Program) (ok:Nat->Prop) (w:World) (e:TypeId) (size:Nat) (v:Value):Nat->List Value->D->Prop where
 | nil (hv:v = .slice none 0 0):OwnD P ok w e size v 0 [] .nil
 | bytes {s:List UInt8} (hv:v.ownBlock≠none) (he:P.underlying e=some (.int .u8)) (hs:size=1):OwnD P ok w e size v s.length (s.map fun x=>.int .u8 x.toNat) (.bytes s)
 | list {vs:List Value} {ds:List D} (hv:v.ownBlock≠none) (he:P.underlying e≠some (.int .u8)) (hlen:vs.length=ds.length) (hsz:∀u∈vs,u.cells.size=size)
   (hr:∀(j:Nat) (u:Value) (d:D),vs[j]? = some u->ds[j]? = some d->Rep P ok w e u d):OwnD P ok w e size v ds.length (vs.flatMap fun u=>u.cells.toList) (.list ds)
def yRA(P:Program)(ok:Nat->Prop)(w:World)(t:TypeId)(v:Value)(d:D):Prop :=
 ∃e i n xs,P.underlying t=some (.slice e)/\P.info? e=some i/\w.ownsRow 0 e i.size v n xs/\OwnD P ok w e i.size v n xs d
inductive TagsAt (P:Program) (ok:Nat->Prop) (w:World) (t:TypeId):Value->D->Prop where
 | nil {k e} (hu:P.underlying t=some (.map k e)):TagsAt P ok w t (.map none) .nil
 | map {k e r clock} {es:Array MapEntry} {ds:List (Int×D)} (hu:P.underlying t=some (.map k e)) (hk:P.underlying k=some (.int .u32))
   (hh:w.heap[r]? = some (.map es clock))
   (hkeys:(es.toList.map (·.key)).Perm (ds.map fun d=>Value.int .u32 d.1))
   (hkw:∀d∈ds,(Lit.int .u32 d.1).wf=true)
   (hs:(ds.map (·.1)).Pairwise (· < ·))
   (hborn:(es.toList.map (·.born)).Nodup) (hclock:∀x∈es.toList,x.born<clock)
   (hr:∀x∈es.toList,∀n d,x.key = .int .u32 n->(n,d)∈ds->Rep P ok w e x.val d):TagsAt P ok w t (.map (some r)) (.map ds)
def zFA:VT->Value->Option Nat
 | .own _,v=>v.ownBlock
 | .tags _,.map r=>r
 | _,_=>none
def qUA(P:Program)(ok:Nat->Prop)(w:World)(vt:VT)(v:Value)(home:Nat×Nat)(d:D):Prop :=
 match vt with
 | .set t=>Rep P ok w t v d
 | .row t=>Rep P ok w t v d/\ok home.1/\xQA w home.1 home.2 v.cells.toList
 | .own t=>yRA P ok w t v d
 | .tags t=>TagsAt P ok w t v d
 | .dead=>True
 | .gi=>(∃t x,v = .iface t x/\d = .bool true)∨(v = .nilIface/\d = .bool false)
def Actv(st:St)(g:Gh)(b:Nat):Prop :=
 (∃o cs,lk o st.objs=some cs/\g.rb o=b)∨(∃n vi,lk n st.vars=some vi/\zFA vi.vt (g.rv n)=some b)
def okOf(st:St)(g:Gh)(w:World)(b:Nat):Prop:=b<w.heap.size /\ ¬Actv st g b /\ ¬g.ex b
def xTC(X:Nat->List D->D)(J:List D)(g:Gh)(w:World)(o:Nat)(cs:List SV):Prop :=
 (∃t,w.heap[g.rb o]? = some (.cells (dens X J g cs).toArray t (0,0)))/\(∀v∈dens X J g cs,v.oneCell'=true)/\oks X J cs
def LpOk(P:Program)(X:Nat->List D->D)(J:List D)(g:Gh)(lp:Lp):Prop :=
 ∃b off len cap k i,lp.src.den X J g = .slice (some ⟨b,off,none⟩) len cap/\J[lp.lvl]? = some (.int (k:Nat))/\k<len/\P.info? lp.el=some i/\g.rh lp.row=(b,off+k*i.size)
structure Base where
 w:World
 M:Nat->Prop
 ex:Nat->Prop
def Base.Free(w0:Base)(b:Nat):Prop:=w0.w.heap.size<=b∨w0.M b
def GlW(X:Nat->List D->D)(w:World)(M:Nat->Prop):Prop:=∀k:Nat,(X 399 [.int (k:Nat)]).asInt≠0 -> ¬M k /\ ∃t x ty fz,w.heap[k]? = some (.cells #[.iface t x] ty fz)
def GlOk(X:Nat->List D->D)(w0:Base):Prop:=GlW X w0.w w0.M
structure Mem (P:Program) (X:Nat->List D->D) (w0:Base) (J:List D) (st:St) (g:Gh) (w:World):Prop where
 va:∀n vi,lk n st.vars=some vi->qUA P (okOf st g w) w vi.vt (g.rv n) (g.rh n) (vi.de.eval X J)
 ob:∀o cs,lk o st.objs=some cs->xTC X J g w o cs
 oo:∀o o' c c',lk o st.objs=some c->lk o' st.objs=some c'->g.rb o=g.rb o'->o=o'
 vv:∀n m vi vj b,lk n st.vars=some vi->lk m st.vars=some vj->zFA vi.vt (g.rv n)=some b->zFA vj.vt (g.rv m)=some b->n=m
 ov:∀o n c vi,lk o st.objs=some c->lk n st.vars=some vi->zFA vi.vt (g.rv n)≠some (g.rb o)
 lo:∀b,Actv st g b->w0.Free b
 lp:∀l∈st.loops,LpOk P X J g l
 fr:Fr w0.M w0.w w
 lv:J.length=st.lvl
 ex:(∀b,g.ex b->b<w0.w.heap.size /\ ¬w0.M b) /\ ∀b,w0.ex b->g.ex b
 gl:GlOk X w0
structure Env (X:Nat->List D->D) (J:List D) (st:St) (g:Gh) (a:Act):Prop where
 tm:∀s sv,lk s st.env=some sv->a.tmps[s]? = some (sv.den X J g)/\sv.ok X J
 df:a.defers=[]
 sz:a.tmps.size=st.nt
theorem yTB{α:Type}{n m:Nat}(h:n≠m):∀l:List (Nat×α),lk m (del n l)=lk m l
 | []=>rfl
 | (k,a)::r=>by
  rw[xNE];by_cases hk:n=k
  ·subst hk;simp only[beq_self_eq_true,if_true];rw[yTB h r];simp[yTA,yLA,Ne.symm h]
  ·simp only[beq_iff_eq,hk,if_false,yTA,yLA];rw[yTB h r]
theorem xAD{α:Type}{n:Nat}:∀l:List (Nat×α),lk n (del n l)=none
 | []=>rfl
 | (k,a)::r=>by
  rw[xNE];by_cases hk:n=k
  ·subst hk;simp only[beq_self_eq_true,if_true];exact xAD r
  ·simp only[beq_iff_eq,hk,if_false,yTA,yLA];exact xAD r
theorem zZA{α:Type}{n:Nat}{a:α}{l:List (Nat×α)}:lk n (upd n a l)=some a:=by simp[upd,yTA,yLA]
theorem yJA{α:Type}{n m:Nat}{a:α}{l:List (Nat×α)}(h:n≠m):lk m (upd n a l)=lk m l:=by
 simp[upd,yTA,yLA,Ne.symm h,yTB h]
theorem zIA{α:Type}{n:Nat}{a:α}{l:List (Nat×α)}:lk n ((n,a)::l)=some a:=by simp[yTA,yLA]
theorem zHA{α:Type}{n m:Nat}{a:α}{l:List (Nat×α)}(h:n≠m):lk m ((n,a)::l)=lk m l:=by simp[yTA,yLA,Ne.symm h]
theorem zBB{α:Type}{n:Nat}{a:α}:∀ {l:List (Nat×α)},lk n l=some a->(n,a)∈l
 | [],h=>by simp[yTA,yLA] at h
 | (k,b)::r,h=>by
  rw[yLA] at h;by_cases hk:n=k
  ·subst hk;simp at h;subst h;simp
  ·simp only[beq_iff_eq,hk,if_false] at h;exact List.mem_cons_of_mem _ (zBB h)
def Gh.setV(g:Gh)(n:Nat)(v:Value)(h:Nat×Nat):Gh:={ g with rv:=fun m=>if m=n then v else g.rv m,rh:=fun m=>if m=n then h else g.rh m }
def Gh.setO(g:Gh)(n:Nat)(b:Nat):Gh:={ g with rb:=fun m=>if m=n then b else g.rb m }
mutual
theorem zID(X:Nat->List D->D)(J:List D)(g:Gh)(n:Nat)(v:Value)(h:Nat×Nat):∀s:SV,s.men n=false->s.den X J (g.setV n v h)=s.den X J g
 | .i _ _,_=>rfl
 | .b _,_=>rfl
 | .s _,_=>rfl
 | .fl _,_=>rfl
 | .c _,_=>rfl
 | .x m,hm=>by
  simp only[SV.men,beq_eq_false_iff_ne,ne_eq] at hm;simp[SV.den,Gh.setV,Ne.symm hm]
 | .xc m j,hm=>by
  simp only[SV.men,beq_eq_false_iff_ne,ne_eq] at hm;simp[SV.den,Gh.setV,Ne.symm hm]
 | .agg l,hm=>by
  simp only[SV.men] at hm;simp[SV.den,xUB X J g n v h l hm]
 | .oa _ _,_=>rfl
 | .osl _ _,_=>rfl
 | .ea m e k z,hm=>by
  simp only[SV.men,beq_eq_false_iff_ne,ne_eq] at hm;simp[SV.den,Gh.setV,Ne.symm hm]
 | .ra m k,hm=>by
  simp only[SV.men,beq_eq_false_iff_ne,ne_eq] at hm;simp[SV.den,Gh.setV,Ne.symm hm]
 | .tup l,hm=>by
  simp only[SV.men] at hm;simp[SV.den,xUB X J g n v h l hm]
 | .w k l,hm=>by
  simp only[SV.men] at hm;simp[SV.den,xUB X J g n v h l hm]
theorem xUB(X:Nat->List D->D)(J:List D)(g:Gh)(n:Nat)(v:Value)(h:Nat×Nat):∀l:List SV,mens n l=false->dens X J (g.setV n v h) l=dens X J g l
 | [],_=>rfl
 | a::as,hm=>by
  simp only[mens,Bool.or_eq_false_iff] at hm;simp[dens,zID X J g n v h a hm.1,xUB X J g n v h as hm.2]
end
mutual
theorem yHG(X:Nat->List D->D)(J:List D)(g:Gh)(n:Nat)(b:Nat):∀s:SV,s.meno n=false->s.den X J (g.setO n b)=s.den X J g
 | .i _ _,_=>rfl
 | .b _,_=>rfl
 | .s _,_=>rfl
 | .fl _,_=>rfl
 | .c _,_=>rfl
 | .x m,_=>rfl
 | .xc m j,_=>rfl
 | .agg l,hm=>by
  simp only[SV.meno] at hm;simp[SV.den,zUC X J g n b l hm]
 | .oa m _,hm=>by
  simp only[SV.meno,beq_eq_false_iff_ne,ne_eq] at hm;simp[SV.den,Gh.setO,Ne.symm hm]
 | .osl m _,hm=>by
  simp only[SV.meno,beq_eq_false_iff_ne,ne_eq] at hm;simp[SV.den,Gh.setO,Ne.symm hm]
 | .ra _ _,_=>rfl
 | .ea _ _ _ _,_=>rfl
 | .tup l,hm=>by
  simp only[SV.meno] at hm;simp[SV.den,zUC X J g n b l hm]
 | .w k l,hm=>by
  simp only[SV.meno] at hm;simp[SV.den,zUC X J g n b l hm]
theorem zUC(X:Nat->List D->D)(J:List D)(g:Gh)(n:Nat)(b:Nat):∀l:List SV,zOF n l=false->dens X J (g.setO n b) l=dens X J g l
 | [],_=>rfl
 | a::as,hm=>by
  simp only[zOF,Bool.or_eq_false_iff] at hm;simp[dens,yHG X J g n b a hm.1,zUC X J g n b as hm.2]
end
theorem OwnD.mono{P:Program}{ok ok':Nat->Prop}{w w':World}{e:TypeId}{size:Nat}{v:Value}{n:Nat}{xs:List Value}{d:D}(h:OwnD P ok w e size v n xs d)
  (hok:∀b,ok b->ok' b) (hw:∀b,ok b->w'.heap[b]? = w.heap[b]?):OwnD P ok' w' e size v n xs d:=by
 cases h with
 | nil hv=>exact .nil hv
 | bytes hv he hs=>exact .bytes hv he hs
 | list hv he hlen hsz hr=>exact .list hv he hlen hsz (fun j u d h1 h2=>(hr j u d h1 h2).mono hok hw)
theorem xFG{w w':World}{e:TypeId}{size:Nat}{v:Value}{n:Nat}{xs:List Value}(h:w.ownsRow 0 e size v n xs)
  (hb:∀b,v.ownBlock=some b->w'.heap[b]? = w.heap[b]?):w'.ownsRow 0 e size v n xs:=by
 obtain⟨h1,h2⟩:=h;refine⟨h1,?_⟩;rcases h2 with h2|⟨g,cap,cur,rfl,hg,hh,r⟩
 ·exact .inl h2
 ·exact .inr ⟨g,cap,cur,rfl,hg,(hb g rfl).trans hh,r⟩
theorem yRA.mono{P:Program}{ok ok':Nat->Prop}{w w':World}{t:TypeId}{v:Value}{d:D}(h:yRA P ok w t v d)
  (hok:∀b,ok b->ok' b) (hw:∀b,ok b->w'.heap[b]? = w.heap[b]?) (hb:∀b,v.ownBlock=some b->w'.heap[b]? = w.heap[b]?):yRA P ok' w' t v d:=by
 obtain⟨e,i,n,xs,h1,h2,h3,h4⟩:=h;exact⟨e,i,n,xs,h1,h2,xFG h3 hb,h4.mono hok hw⟩
theorem TagsAt.mono{P:Program}{ok ok':Nat->Prop}{w w':World}{t:TypeId}{v:Value}{d:D}(h:TagsAt P ok w t v d)
  (hok:∀b,ok b->ok' b) (hw:∀b,ok b->w'.heap[b]? = w.heap[b]?) (hb:∀b,zFA (.tags t) v=some b->w'.heap[b]? = w.heap[b]?):TagsAt P ok' w' t v d:=by
 cases h with
 | nil hu=>exact .nil hu
 | map hu hk hh hkeys hkw hs hborn hclock hr=>exact .map hu hk ((hb _ rfl).trans hh) hkeys hkw hs hborn hclock (fun x hx n d h1 h2=>(hr x hx n d h1 h2).mono hok hw)
theorem qUA.mono{P:Program}{ok ok':Nat->Prop}{w w':World}{vt:VT}{v:Value}{hm:Nat×Nat}{d:D}(h:qUA P ok w vt v hm d)
  (hok:∀b,ok b->ok' b) (hw:∀b,ok b->w'.heap[b]? = w.heap[b]?) (hb:∀b,zFA vt v=some b->w'.heap[b]? = w.heap[b]?):qUA P ok' w' vt v hm d:=by
 cases vt with
 | set t=>exact Rep.mono h hok hw
 | row t=>exact⟨Rep.mono h.1 hok hw,hok _ h.2.1,h.2.2.frame (hw _ h.2.1)⟩
 | own t=>exact yRA.mono h hok hw hb
 | tags t=>exact TagsAt.mono h hok hw hb
 | dead=>trivial
 | gi=>exact h
theorem xTC.frame{X:Nat->List D->D}{J:List D}{g:Gh}{w w':World}{o:Nat}{cs:List SV}(h:xTC X J g w o cs)(hb:w'.heap[g.rb o]? = w.heap[g.rb o]?):xTC X J g w' o cs:=by
 obtain⟨⟨t,h1⟩,h2⟩:=h;exact⟨⟨t,hb.trans h1⟩,h2⟩
theorem xTC.lt{X:Nat->List D->D}{J:List D}{g:Gh}{w:World}{o:Nat}{cs:List SV}(h:xTC X J g w o cs):g.rb o<w.heap.size:=by
 obtain⟨⟨t,h1⟩,_⟩:=h;exact(Array.getElem?_eq_some_iff.1 h1).1
theorem qUA.lt{P:Program}{ok:Nat->Prop}{w:World}{vt:VT}{v:Value}{hm:Nat×Nat}{d:D}(h:qUA P ok w vt v hm d):∀b,zFA vt v=some b->b<w.heap.size:=by
 intro b hb;cases vt with
 | set t=>simp[zFA] at hb
 | row t=>simp[zFA] at hb
 | own t =>
  obtain⟨e,i,n,xs,_,_,h3,_⟩:=h;exact(h3.lt b hb).2
 | tags t =>
  cases h with
  | nil=>simp[zFA] at hb
  | map _ _ hh=>simp[zFA] at hb;subst hb;exact(Array.getElem?_eq_some_iff.1 hh).1
 | dead=>simp[zFA] at hb
 | gi=>simp[zFA] at hb
variable {P:Program} {X:Nat->List D->D} {w0:Base} {J:List D} {st:St} {g:Gh} {w:World} {a:Act}
theorem Mem.act_lt(h:Mem P X w0 J st g w){b:Nat}(hb:Actv st g b):b<w.heap.size:=by
 rcases hb with⟨o,cs,h1,rfl⟩|⟨n,vi,h1,h2⟩
 ·exact(h.ob o cs h1).lt
 ·exact(h.va n vi h1).lt b h2
theorem Mem.notEx(h:Mem P X w0 J st g w){b:Nat}(hb:Actv st g b):¬g.ex b:=fun e=>by
 have h1:=h.ex.1 b e;rcases h.lo b hb with h2|h2
 ·exact Nat.lt_irrefl _ (Nat.lt_of_lt_of_le h1.1 h2)
 ·exact h1.2 h2
theorem Mem.newEx(h:Mem P X w0 J st g w){b:Nat}(hb:w.heap.size<=b):¬g.ex b:=fun e=>by
 have h1:=(h.ex.1 b e).1;have h2:=h.fr.size;omega
theorem Mem.frame(h:Mem P X w0 J st g w){w':World}(hf:Fr (fun _=>False) w w'):Mem P X w0 J st g w':=by
 have hb:∀b,b<w.heap.size->w'.heap[b]? = w.heap[b]?:=fun b hb=>hf.block b hb (fun e=>e)
 have hok:∀b,okOf st g w b->okOf st g w' b:=fun b hb=>⟨Nat.lt_of_lt_of_le hb.1 hf.size,hb.2⟩
 refine⟨fun n vi hn=>(h.va n vi hn).mono hok (fun b hb'=>hb b hb'.1) (fun b hb'=>hb b ((h.va n vi hn).lt b hb')),fun o cs ho=>(h.ob o cs ho).frame (hb _ (h.ob o cs ho).lt),h.oo,h.vv,h.ov,h.lo,h.lp,?_,h.lv,h.ex,h.gl⟩;exact h.fr.trans hf (fun _ _ e=>e.elim)
end Go.Dx
namespace Go.Dx
open Go
variable {P:Program} {X:Nat->List D->D} {w0:Base} {J:List D} {st:St} {g:Gh} {w:World} {a:Act}
theorem Mem.modify(h:Mem P X w0 J st g w){M:Nat->Prop}{w':World}(hf:Fr M w w')(hM:∀b,b<w.heap.size->M b->Actv st g b)(st':St)
  (hlv:st'.lvl=st.lvl) (hlp:∀l∈st'.loops,l∈st.loops)
  (hob:∀o cs,lk o st'.objs=some cs->lk o st.objs=some cs /\ ¬M (g.rb o))
  (hva:∀n vi,lk n st'.vars=some vi->vi.vt = .dead∨(lk n st.vars=some vi /\ ∀b,zFA vi.vt (g.rv n)=some b -> ¬M b)) :
  Mem P X w0 J st' g w' /\ ∀b,okOf st g w b->okOf st' g w' b/\w'.heap[b]? = w.heap[b]?:=by
 have hact:∀b,Actv st' g b->Actv st g b:=by
  rintro b (⟨o,cs,h1,h2⟩|⟨n,vi,h1,h2⟩)
  ·exact .inl ⟨o,cs,(hob o cs h1).1,h2⟩
  ·rcases hva n vi h1 with hd|⟨h3,_⟩
   ·rw[hd] at h2;simp[zFA] at h2
   ·exact .inr ⟨n,vi,h3,h2⟩
 have hok:∀b,okOf st g w b->okOf st' g w' b/\w'.heap[b]? = w.heap[b]?:=fun b hb =>
  ⟨⟨Nat.lt_of_lt_of_le hb.1 hf.size,fun e=>hb.2.1 (hact b e),hb.2.2⟩,hf.block b hb.1 (fun e=>hb.2.1 (hM b hb.1 e))⟩
 refine⟨⟨?_,?_,?_,?_,?_,fun b hb=>h.lo b (hact b hb),fun l hl=>h.lp l (hlp l hl),?_,by rw[hlv];exact h.lv,h.ex,h.gl⟩,hok⟩
 ·intro n vi hn;rcases hva n vi hn with hd|⟨h3,h4⟩
  ·rw[hd];trivial
  ·have hv:=h.va n vi h3;exact hv.mono (fun b hb=>(hok b hb).1) (fun b hb=>(hok b hb).2) (fun b hb=>hf.block b (hv.lt b hb) (h4 b hb))
 ·intro o cs ho;have hc:=h.ob o cs (hob o cs ho).1;exact hc.frame (hf.block _ hc.lt (hob o cs ho).2)
 ·intro o o' c c' h1 h2;exact h.oo o o' c c' (hob o c h1).1 (hob o' c' h2).1
 ·intro n m vi vj b h1 h2 h3 h4;rcases hva n vi h1 with hd|⟨h5,_⟩
  ·rw[hd] at h3;simp[zFA] at h3
  ·rcases hva m vj h2 with hd|⟨h6,_⟩
   ·rw[hd] at h4;simp[zFA] at h4
   ·exact h.vv n m vi vj b h5 h6 h3 h4
 ·intro o n c vi h1 h2;rcases hva n vi h2 with hd|⟨h5,_⟩
  ·rw[hd];simp[zFA]
  ·exact h.ov o n c vi (hob o c h1).1 h5
 ·refine h.fr.trans hf (fun b hb hm=>?_);rcases h.lo b (hM b (Nat.lt_of_lt_of_le hb h.fr.size) hm) with h1|h1
  ·omega
  ·exact h1
theorem Mem.change(h:Mem P X w0 J st g w){M:Nat->Prop}{w':World}(hf:Fr M w w')(hM:∀b,b<w.heap.size->M b->Actv st g b)(st':St)
  (hlv:st'.lvl=st.lvl) (hlp:∀l∈st'.loops,l∈st.loops)
  (hob:∀o cs,lk o st'.objs=some cs->lk o st.objs=some cs /\ ¬M (g.rb o))
  (hva:∀n vi,lk n st'.vars=some vi->vi.vt = .dead∨(lk n st.vars=some vi /\ ∀b,zFA vi.vt (g.rv n)=some b -> ¬M b))
  (n:Nat) (vi:VI) (v:Value) (hm:Nat×Nat) (hfresh:st'.freshV n=true)
  (hblk:∀b,zFA vi.vt v=some b->(w.heap.size<=b∨M b)/\w0.Free b/\b<w'.heap.size)
  (hvok:∀ok':Nat->Prop,(∀b,okOf st g w b->ok' b)->(∀b,w.heap.size<=b->b<w'.heap.size->zFA vi.vt v≠some b->ok' b)->qUA P ok' w' vi.vt v hm (vi.de.eval X J)) :
  Mem P X w0 J { st' with vars:=(n,vi)::st'.vars } (g.setV n v hm) w':=by
 obtain⟨hmem,hok⟩:=h.modify hf hM st' hlv hlp hob hva;simp only[St.freshV,baZ,List.all_eq_true,Bool.not_eq_true'] at hfresh;obtain⟨⟨⟨hf1,hf2⟩,hf3⟩,hf4⟩:=hfresh;have hnone:lk n st'.vars=none:=by simpa using hf1
 have hrv:∀m vj,lk m st'.vars=some vj->m≠n:=fun m vj hj e=>by rw[e,hnone] at hj;cases hj
 have hsame:∀m,m≠n->(g.setV n v hm).rv m=g.rv m/\(g.setV n v hm).rh m=g.rh m:=fun m hne=>by simp[Gh.setV,hne]
 have hnew:(g.setV n v hm).rv n=v/\(g.setV n v hm).rh n=hm:=by simp[Gh.setV]
 have hact:∀b,Actv { st' with vars:=(n,vi)::st'.vars } (g.setV n v hm) b->Actv st' g b∨zFA vi.vt v=some b:=by
  rintro b (⟨o,cs,h1,h2⟩|⟨m,vj,h1,h2⟩)
  ·exact .inl (.inl ⟨o,cs,h1,h2⟩)
  ·by_cases hmn:n=m
   ·subst hmn;rw[zIA] at h1;cases h1;rw[hnew.1] at h2;exact .inr h2
   ·rw[zHA hmn] at h1;rw[(hsame m (Ne.symm hmn)).1] at h2;exact .inl (.inr ⟨m,vj,h1,h2⟩)
 have hactst:∀b,Actv st' g b -> ¬M b:=by
  rintro b (⟨o,cs,h1,h2⟩|⟨m,vj,h1,h2⟩) hMb
  ·subst h2;exact(hob o cs h1).2 hMb
  ·rcases hva m vj h1 with hd|⟨_,h4⟩
   ·rw[hd] at h2;simp[zFA] at h2
   ·exact h4 b h2 hMb
 have hactlt:∀b,Actv st' g b->b<w.heap.size:=by
  rintro b (⟨o,cs,h1,h2⟩|⟨m,vj,h1,h2⟩)
  ·subst h2;exact(h.ob o cs (hob o cs h1).1).lt
  ·rcases hva m vj h1 with hd|⟨h3,_⟩
   ·rw[hd] at h2;simp[zFA] at h2
   ·exact(h.va m vj h3).lt b h2
 have hdis:∀b,Actv st' g b->zFA vi.vt v≠some b:=fun b hb he=>by
  rcases(hblk b he).1 with h1|h1
  ·have:=hactlt b hb;omega
  ·exact hactst b hb h1
 have hokN:∀b,okOf st g w b->okOf { st' with vars:=(n,vi)::st'.vars } (g.setV n v hm) w' b/\w'.heap[b]? = w.heap[b]?:=fun b hb =>
  ⟨⟨(hok b hb).1.1,fun e=>by
   rcases hact b e with h1|h1
   ·exact(hok b hb).1.2.1 h1
   ·rcases(hblk b h1).1 with h2|h2
    ·have:=hb.1;omega
    ·exact hb.2.1 (hM b hb.1 h2),hb.2.2⟩,(hok b hb).2⟩
 refine⟨?_,?_,?_,?_,?_,?_,?_,hmem.fr,hmem.lv,hmem.ex,hmem.gl⟩
 ·intro m vj hj;by_cases hmn:n=m
  ·subst hmn;rw[zIA] at hj;cases hj;rw[hnew.1,hnew.2];refine hvok _ (fun b hb=>(hokN b hb).1) (fun b hb1 hb2 hb3=>⟨hb2,fun e=>?_,fun e=>?_⟩)
   rotate_left
   ·have h1:=(h.ex.1 b e).1;have h2:=h.fr.size;omega
   rcases hact b e with h1|h1
   ·have:=hactlt b h1;omega
   ·exact hb3 h1
  ·rw[zHA hmn] at hj;rw[(hsame m (Ne.symm hmn)).1,(hsame m (Ne.symm hmn)).2];rcases hva m vj hj with hd|⟨h3,h4⟩
   ·rw[hd];trivial
   ·have hv:=h.va m vj h3;exact hv.mono (fun b hb=>(hokN b hb).1) (fun b hb=>(hokN b hb).2) (fun b hb=>hf.block b (hv.lt b hb) (h4 b hb))
 ·intro o cs ho;have hc:=hmem.ob o cs ho;have hmen:mens n cs=false:=by
   have:=hf3 _ (zBB ho)
   simpa using this
  unfold xTC at hc ⊢;rw[xUB X J g n v hm cs hmen];exact hc
 ·intro o o' c c' h1 h2 h3;exact hmem.oo o o' c c' h1 h2 h3
 ·intro m k vj vk b h1 h2 h3 h4;by_cases hm1:n=m
  ·subst hm1;rw[zIA] at h1;cases h1
   rw[hnew.1] at h3;by_cases hk1:n=k
   ·exact hk1
   ·rw[zHA hk1] at h2;rw[(hsame k (Ne.symm hk1)).1] at h4;exact absurd h3 (hdis b (.inr ⟨k,vk,h2,h4⟩))
  ·rw[zHA hm1] at h1;rw[(hsame m (Ne.symm hm1)).1] at h3;by_cases hk1:n=k
   ·subst hk1;rw[zIA] at h2;cases h2
    rw[hnew.1] at h4;exact absurd h4 (hdis b (.inr ⟨m,vj,h1,h3⟩))
   ·rw[zHA hk1] at h2;rw[(hsame k (Ne.symm hk1)).1] at h4;exact hmem.vv m k vj vk b h1 h2 h3 h4
 ·intro o m c vj h1 h2 h3;by_cases hm1:n=m
  ·subst hm1;rw[zIA] at h2;cases h2
   rw[hnew.1] at h3;exact hdis _ (.inl ⟨o,c,h1,rfl⟩) h3
  ·rw[zHA hm1] at h2;rw[(hsame m (Ne.symm hm1)).1] at h3;exact hmem.ov o m c vj h1 h2 h3
 ·intro b hb;rcases hact b hb with h1|h1
  ·exact hmem.lo b h1
  ·exact(hblk b h1).2.1
 ·intro l hl;have hl4:=hf4 l hl;simp only[beq_eq_false_iff_ne,ne_eq] at hl4;obtain⟨b,off,len,cap,k,i,h1,h2,h3,h4,h5⟩:=hmem.lp l hl;exact⟨b,off,len,cap,k,i,by rw[zID X J g n v hm _ (by simpa using hl4.2)];exact h1,h2,h3,h4,by rw[(hsame l.row hl4.1).2];exact h5⟩
theorem Mem.newObj(h:Mem P X w0 J st g w)(n:Nat)(cs:List SV)(t:TypeId)(hfresh:st.freshO n=true)(h1:∀v∈dens X J g cs,v.oneCell'=true)(h2:oks X J cs)(hcs:zOF n cs=false) :
  Mem P X w0 J { st with objs:=(n,cs)::st.objs } (g.setO n w.heap.size) (w.alloc (.cells (dens X J g cs).toArray t)):=by
 have hmem:=h.frame (Fr.alloc (fun _=>False) w (.cells (dens X J g cs).toArray t));simp only[St.freshO,baZ,List.all_eq_true,Bool.not_eq_true'] at hfresh;obtain⟨⟨⟨hf1,hf2⟩,hf3⟩,hf4⟩:=hfresh;have hnone:lk n st.objs=none:=by simpa using hf1
 have hsame:∀m,m≠n->(g.setO n w.heap.size).rb m=g.rb m:=fun m hne=>by simp[Gh.setO,hne]
 have hnew:(g.setO n w.heap.size).rb n=w.heap.size:=by simp[Gh.setO]
 have hact:∀b,Actv { st with objs:=(n,cs)::st.objs } (g.setO n w.heap.size) b->Actv st g b∨b=w.heap.size:=by
  rintro b (⟨o,c,h1,h2⟩|⟨m,vj,h1,h2⟩)
  ·by_cases hon:n=o
   ·subst hon;rw[hnew] at h2;exact .inr h2.symm
   ·rw[zHA hon] at h1;rw[hsame o (Ne.symm hon)] at h2;exact .inl (.inl ⟨o,c,h1,h2⟩)
  ·exact .inl (.inr ⟨m,vj,h1,h2⟩)
 have hnot:∀o c,lk o st.objs=some c->n≠o:=fun o c ho e=>by subst e;rw[hnone] at ho;cases ho
 refine⟨?_,?_,?_,hmem.vv,?_,?_,?_,hmem.fr,hmem.lv,hmem.ex,hmem.gl⟩
 ·intro m vj hj;have hv:=h.va m vj hj;refine hv.mono (fun b hb=>⟨by have:=hb.1;simp;omega,fun e=>?_,hb.2.2⟩) (fun b hb=>Go.RowKit.Below.heap_alloc w _ b hb.1) (fun b hb=>Go.RowKit.Below.heap_alloc w _ b (hv.lt b hb));rcases hact b e with h2|h2
  ·exact hb.2.1 h2
  ·have:=hb.1;omega
 ·intro o c ho;by_cases hon:n=o
  ·subst hon;rw[zIA] at ho;cases ho
   unfold xTC;rw[hnew,zUC X J g n _ cs hcs];exact⟨⟨t,heap_alloc_new w _⟩,h1,h2⟩
  ·rw[zHA hon] at ho;have hc:=hmem.ob o c ho;have hmen:zOF n c=false:=by simpa using hf3 _ (zBB ho)
   unfold xTC at hc ⊢;rw[hsame o (Ne.symm hon),zUC X J g n _ c hmen];exact hc
 ·intro o o' c c' h2 h3 h4;by_cases hon:n=o
  ·subst hon;by_cases hon':n=o'
   ·exact hon'
   ·rw[zHA hon'] at h3;rw[hnew,hsame o' (Ne.symm hon')] at h4
    have:=(h.ob o' c' h3).lt
    omega
  ·rw[zHA hon] at h2;by_cases hon':n=o'
   ·subst hon';rw[hnew,hsame o (Ne.symm hon)] at h4
    have:=(h.ob o c h2).lt
    omega
   ·rw[zHA hon'] at h3;rw[hsame o (Ne.symm hon),hsame o' (Ne.symm hon')] at h4;exact hmem.oo o o' c c' h2 h3 h4
 ·intro o m c vj h2 h3 h4;by_cases hon:n=o
  ·subst hon;rw[hnew] at h4
   have:=(h.va m vj h3).lt _ h4
   omega
  ·rw[zHA hon] at h2;rw[hsame o (Ne.symm hon)] at h4;exact hmem.ov o m c vj h2 h3 h4
 ·intro b hb;rcases hact b hb with h2|h2
  ·exact hmem.lo b h2
  ·subst h2;exact .inl h.fr.size
 ·intro l hl;have hl4:=hf4 l hl;obtain⟨b,off,len,cap,k,i,h2,h3,h4,h5,h6⟩:=hmem.lp l hl;exact⟨b,off,len,cap,k,i,by rw[yHG X J g n _ _ (by simpa using hl4)];exact h2,h3,h4,h5,h6⟩
theorem Mem.setObj(h:Mem P X w0 J st g w){o:Nat}{cs cs':List SV}{t:TypeId}{w':World}(ho:lk o st.objs=some cs)
  (hw:w'.heap[g.rb o]? = some (.cells (dens X J g cs').toArray t (0,0))) (hf:Fr (fun b=>b=g.rb o) w w')
  (h1:∀v∈dens X J g cs',v.oneCell'=true) (h2:oks X J cs') :
  Mem P X w0 J { st with objs:=upd o cs' st.objs } g w':=by
 have hact:∀b,Actv { st with objs:=upd o cs' st.objs } g b↔Actv st g b:=by
  intro b;constructor
  ·rintro(⟨p,c,h3,h4⟩|h3)
   ·by_cases hp:o=p
    ·subst hp;exact .inl ⟨o,cs,ho,h4⟩
    ·rw[yJA hp] at h3;exact .inl ⟨p,c,h3,h4⟩
   ·exact .inr h3
  ·rintro(⟨p,c,h3,h4⟩|h3)
   ·by_cases hp:o=p
    ·subst hp;exact .inl ⟨o,cs',zZA,h4⟩
    ·exact .inl ⟨p,c,by rw[yJA hp];exact h3,h4⟩
   ·exact .inr h3
 have hoa:Actv st g (g.rb o):=.inl ⟨o,cs,ho,rfl⟩;have hold:∀p c,lk p (upd o cs' st.objs)=some c -> ∃c',lk p st.objs=some c':=by
  intro p c hp;by_cases h3:o=p
  ·subst h3;exact⟨cs,ho⟩
  ·rw[yJA h3] at hp;exact⟨c,hp⟩
 refine⟨?_,?_,?_,h.vv,?_,fun b hb=>h.lo b ((hact b).1 hb),h.lp,?_,h.lv,h.ex,h.gl⟩
 ·intro n vi hn;have hv:=h.va n vi hn;refine hv.mono (fun b hb=>⟨Nat.lt_of_lt_of_le hb.1 hf.size,fun e=>hb.2.1 ((hact b).1 e),hb.2.2⟩) (fun b hb=>hf.block b hb.1 (fun e=>hb.2.1 (e▸hoa))) (fun b hb=>hf.block b (hv.lt b hb) (fun e=>?_));subst e;exact h.ov o n cs vi ho hn hb
 ·intro p c hp;by_cases h3:o=p
  ·subst h3;rw[zZA] at hp;cases hp
   exact⟨⟨t,hw⟩,h1,h2⟩
  ·rw[yJA h3] at hp;have hc:=h.ob p c hp;exact hc.frame (hf.block _ hc.lt (fun e=>h3 (h.oo o p cs c ho hp e.symm)))
 ·intro p q c c' h3 h4 h5;obtain⟨c1,h3⟩:=hold p c h3;obtain⟨c2,h4⟩:=hold q c' h4;exact h.oo p q c1 c2 h3 h4 h5
 ·intro p n c vi h3 h4;obtain⟨c1,h3⟩:=hold p c h3;exact h.ov p n c1 vi h3 h4
 ·refine h.fr.trans hf (fun b hb e=>?_);subst e;rcases h.lo _ hoa with h1|h1
  ·omega
  ·exact h1
end Go.Dx
namespace Go.Dx
open Go
theorem qTB(X:Nat->List D->D)(J:List D):∀l,zDA X l J=l.map (fun e=>e.eval X J)
 | []=>by simp[zDA]
 | a::as=>by simp[zDA,qTB X J as]
theorem zEA(X:Nat->List D->D)(J:List D)(n:Fn)(as:List DE):(mkf n as).eval X J=n.eval X (zDA X as J):=by
 unfold mkf;split
 case h_13 j l =>
  simp only[DE.eval,zDA,Fn.eval,D.cells,qTB,List.getD_eq_getElem?_getD,List.getElem?_map];cases h:l[j]? <;> simp[DE.eval]
 all_goals first|rfl|(simp only[DE.eval,zDA,Fn.eval,D.asInt,D.asBool,D.cells];done)
theorem zCC(k:IntKind)(n:Int):(Lit.int k (k.wrap n)).wf=true:=by
 cases k <;> simp[Lit.wf,IntKind.min,IntKind.max,IntKind.signed,IntKind.bits,IntKind.wrap] <;> (try split) <;> (try omega)
inductive Shape:Kd->Value->D->Prop where
 | slice {a n c d} (hn:n=d.len) (ha:a=none↔d.isNil=true) (hm:n<=maxLen) (h0:a=none->c=0):Shape .sl (.slice a n c) d
 | ptr {a d} (ha:a=none↔d.isNil=true):Shape .pt (.pointer a) d
 | map {a d} (ha:a=none↔d.isNil=true) (hl:d.isNil=true->d.len=0):Shape .mp (.map a) d
 | str {s:ByteArray} {d} (hn:s.size=d.len) (hm:s.size<=maxLen):Shape .sr (.string s) d
theorem Shape.one{k:Kd}{v:Value}{d:D}(h:Shape k v d):v.oneCell'=true/\v.cells = #[v]:=by
 cases h <;> exact⟨rfl,rfl⟩
section
variable {P:Program} {ok:Nat->Prop} {w:World}
theorem yNC{t:TypeId}{d:TypeDesc}(hu:P.underlying t=some d)(hd:zGA d=false)(n:Nat):qIE P n t=[t]:=by
 cases n with
 | zero=>rfl
 | succ n =>
  unfold qIE;rw[hu];cases d <;> simp_all [zGA]
theorem Rep.notAgg{t:TypeId}{d:TypeDesc}{v:Value}{x:D}(h:Rep P ok w t v x)(hu:P.underlying t=some d)(hd:zGA d=false):v.cells = #[v]/\x.cells=[x]/\v.oneCell'=true:=by
 cases h with
 | row hu' hd'=>rw[hu] at hu';cases hu';rw[hd] at hd';cases hd'
 | int=>exact⟨rfl,rfl,rfl⟩
 | bool=>exact⟨rfl,rfl,rfl⟩
 | str=>exact⟨rfl,rfl,rfl⟩
 | flt=>exact⟨rfl,rfl,rfl⟩
 | snil=>exact⟨rfl,rfl,rfl⟩
 | bytes=>exact⟨rfl,rfl,rfl⟩
 | list=>exact⟨rfl,rfl,rfl⟩
 | pnil=>exact⟨rfl,rfl,rfl⟩
 | ptr=>exact⟨rfl,rfl,rfl⟩
 | mnil=>exact⟨rfl,rfl,rfl⟩
 | map=>exact⟨rfl,rfl,rfl⟩
theorem Rep.desc{t:TypeId}{v:Value}{x:D}(h:Rep P ok w t v x):∃d,P.underlying t=some d:=by
 cases h <;> exact⟨_,‹_›⟩
theorem Rep.cell{t u:TypeId}{v:Value}{x:D}(h:Rep P ok w t v x){j:Nat}(hj:(tys P t)[j]? = some u) :
  ∃cv cd,v.cells[j]? = some cv/\x.cells[j]? = some cd/\Rep P ok w u cv cd:=by
 obtain⟨d,hu⟩:=h.desc;cases hd:zGA d with
 | false =>
  obtain⟨h1,h2,_⟩:=h.notAgg hu hd;have ht:tys P t=[t]:=yNC hu hd 6;rw[ht] at hj;cases j with
  | zero =>
   simp at hj;subst hj
   exact⟨v,x,by rw[h1];rfl,by rw[h2];rfl,h⟩
  | succ j=>simp at hj
 | true =>
  cases h with
  | row hu' hd' hlen hlen' h1 hr =>
   rename_i vs ds;have hj1:j<(tys P t).length:=(List.getElem?_eq_some_iff.1 hj).1;have hv:vs[j]? = some vs[j]:=List.getElem?_eq_getElem (by omega);have hx:ds[j]? = some ds[j]:=List.getElem?_eq_getElem (by omega);exact⟨vs[j],ds[j],by simp[Value.cells],by simp[D.cells],hr j u _ _ hj hv hx⟩
  | int hu'=>rw[hu] at hu';cases hu';simp[zGA] at hd
  | bool hu'=>rw[hu] at hu';cases hu';simp[zGA] at hd
  | str hu'=>rw[hu] at hu';cases hu';simp[zGA] at hd
  | flt hu'=>rw[hu] at hu';cases hu';simp[zGA] at hd
  | snil hu'=>rw[hu] at hu';cases hu';simp[zGA] at hd
  | bytes hu'=>rw[hu] at hu';cases hu';simp[zGA] at hd
  | list hu'=>rw[hu] at hu';cases hu';simp[zGA] at hd
  | pnil hu'=>rw[hu] at hu';cases hu';simp[zGA] at hd
  | ptr hu'=>rw[hu] at hu';cases hu';simp[zGA] at hd
  | mnil hu'=>rw[hu] at hu';cases hu';simp[zGA] at hd
  | map hu'=>rw[hu] at hu';cases hu';simp[zGA] at hd
theorem Rep.size{t:TypeId}{v:Value}{x:D}(h:Rep P ok w t v x):v.cells.size=(tys P t).length/\x.cells.length=(tys P t).length:=by
 obtain⟨d,hu⟩:=h.desc;cases hd:zGA d with
 | false =>
  obtain⟨h1,h2,_⟩:=h.notAgg hu hd;have ht:tys P t=[t]:=yNC hu hd 6;rw[ht,h1,h2];exact⟨rfl,rfl⟩
 | true =>
  cases h with
  | row hu' hd' hlen hlen' h1 hr=>simp[Value.cells,D.cells,hlen,hlen']
  | int hu'=>rw[hu] at hu';cases hu';simp[zGA] at hd
  | bool hu'=>rw[hu] at hu';cases hu';simp[zGA] at hd
  | str hu'=>rw[hu] at hu';cases hu';simp[zGA] at hd
  | flt hu'=>rw[hu] at hu';cases hu';simp[zGA] at hd
  | snil hu'=>rw[hu] at hu';cases hu';simp[zGA] at hd
  | bytes hu'=>rw[hu] at hu';cases hu';simp[zGA] at hd
  | list hu'=>rw[hu] at hu';cases hu';simp[zGA] at hd
  | pnil hu'=>rw[hu] at hu';cases hu';simp[zGA] at hd
  | ptr hu'=>rw[hu] at hu';cases hu';simp[zGA] at hd
  | mnil hu'=>rw[hu] at hu';cases hu';simp[zGA] at hd
  | map hu'=>rw[hu] at hu';cases hu';simp[zGA] at hd
theorem Rep.isAgg{t:TypeId}{d:TypeDesc}{v:Value}{x:D}(h:Rep P ok w t v x)(hu:P.underlying t=some d)(hd:zGA d=true):v = .agg v.cells/\x = .row x.cells:=by
 cases h with
 | row=>exact⟨rfl,rfl⟩
 | int hu'=>rw[hu] at hu';cases hu';simp[zGA] at hd
 | bool hu'=>rw[hu] at hu';cases hu';simp[zGA] at hd
 | str hu'=>rw[hu] at hu';cases hu';simp[zGA] at hd
 | flt hu'=>rw[hu] at hu';cases hu';simp[zGA] at hd
 | snil hu'=>rw[hu] at hu';cases hu';simp[zGA] at hd
 | bytes hu'=>rw[hu] at hu';cases hu';simp[zGA] at hd
 | list hu'=>rw[hu] at hu';cases hu';simp[zGA] at hd
 | pnil hu'=>rw[hu] at hu';cases hu';simp[zGA] at hd
 | ptr hu'=>rw[hu] at hu';cases hu';simp[zGA] at hd
 | mnil hu'=>rw[hu] at hu';cases hu';simp[zGA] at hd
 | map hu'=>rw[hu] at hu';cases hu';simp[zGA] at hd
theorem Rep.isInt{t:TypeId}{k:IntKind}{v:Value}{x:D}(h:Rep P ok w t v x)(hu:P.underlying t=some (.int k)):∃n,v = .int k n/\x = .int n/\(Lit.int k n).wf=true:=by
 cases h with
 | int hu' hw=>rw[hu] at hu';cases hu';exact⟨_,rfl,rfl,hw⟩
 | bool hu'=>rw[hu] at hu';cases hu'
 | str hu'=>rw[hu] at hu';cases hu'
 | flt hu'=>rw[hu] at hu';cases hu'
 | snil hu'=>rw[hu] at hu';cases hu'
 | bytes hu'=>rw[hu] at hu';cases hu'
 | list hu'=>rw[hu] at hu';cases hu'
 | row hu' hd=>rw[hu] at hu';cases hu';simp[zGA] at hd
 | pnil hu'=>rw[hu] at hu';cases hu'
 | ptr hu'=>rw[hu] at hu';cases hu'
 | mnil hu'=>rw[hu] at hu';cases hu'
 | map hu'=>rw[hu] at hu';cases hu'
theorem Rep.isBool{t:TypeId}{v:Value}{x:D}(h:Rep P ok w t v x)(hu:P.underlying t=some .bool):∃b,v = .bool b/\x = .bool b:=by
 cases h with
 | bool hu'=>exact⟨_,rfl,rfl⟩
 | int hu'=>rw[hu] at hu';cases hu'
 | str hu'=>rw[hu] at hu';cases hu'
 | flt hu'=>rw[hu] at hu';cases hu'
 | snil hu'=>rw[hu] at hu';cases hu'
 | bytes hu'=>rw[hu] at hu';cases hu'
 | list hu'=>rw[hu] at hu';cases hu'
 | row hu' hd=>rw[hu] at hu';cases hu';simp[zGA] at hd
 | pnil hu'=>rw[hu] at hu';cases hu'
 | ptr hu'=>rw[hu] at hu';cases hu'
 | mnil hu'=>rw[hu] at hu';cases hu'
 | map hu'=>rw[hu] at hu';cases hu'
theorem Rep.isStr{t:TypeId}{v:Value}{x:D}(h:Rep P ok w t v x)(hu:P.underlying t=some .string):∃s:ByteArray,v = .string s/\x = .str s.data.toList/\s.size<=maxLen:=by
 cases h with
 | str hu' hm=>exact⟨_,rfl,rfl,hm⟩
 | int hu'=>rw[hu] at hu';cases hu'
 | bool hu'=>rw[hu] at hu';cases hu'
 | flt hu'=>rw[hu] at hu';cases hu'
 | snil hu'=>rw[hu] at hu';cases hu'
 | bytes hu'=>rw[hu] at hu';cases hu'
 | list hu'=>rw[hu] at hu';cases hu'
 | row hu' hd=>rw[hu] at hu';cases hu';simp[zGA] at hd
 | pnil hu'=>rw[hu] at hu';cases hu'
 | ptr hu'=>rw[hu] at hu';cases hu'
 | mnil hu'=>rw[hu] at hu';cases hu'
 | map hu'=>rw[hu] at hu';cases hu'
theorem Rep.isFlt{t:TypeId}{v:Value}{x:D}(h:Rep P ok w t v x)(hu:P.underlying t=some (.float .f64)):∃n,v = .float .f64 n/\x = .flt n:=by
 cases h with
 | flt hu'=>exact⟨_,rfl,rfl⟩
 | int hu'=>rw[hu] at hu';cases hu'
 | bool hu'=>rw[hu] at hu';cases hu'
 | str hu'=>rw[hu] at hu';cases hu'
 | snil hu'=>rw[hu] at hu';cases hu'
 | bytes hu'=>rw[hu] at hu';cases hu'
 | list hu'=>rw[hu] at hu';cases hu'
 | row hu' hd=>rw[hu] at hu';cases hu';simp[zGA] at hd
 | pnil hu'=>rw[hu] at hu';cases hu'
 | ptr hu'=>rw[hu] at hu';cases hu'
 | mnil hu'=>rw[hu] at hu';cases hu'
 | map hu'=>rw[hu] at hu';cases hu'
theorem qHE(s:ByteArray):s.data.toList.length=s.size:=by rw[Array.length_toList];rfl
theorem qHH{d:TypeDesc}{k:Kd}(h:(some d).bind kdOf=some k):zGA d=false:=by
 cases d <;> simp_all [kdOf,zGA]
theorem Rep.shape{t:TypeId}{k:Kd}{v:Value}{x:D}(h:Rep P ok w t v x)(hk:kdT P t=some k):Shape k v x:=by
 unfold kdT at hk;cases h with
 | int hu=>rw[hu] at hk;simp[kdOf] at hk
 | bool hu=>rw[hu] at hk;simp[kdOf] at hk
 | flt hu=>rw[hu] at hk;simp[kdOf] at hk
 | row hu hd=>rw[hu] at hk;rw[qHH hk] at hd;cases hd
 | str hu hm=>rw[hu] at hk;simp[kdOf] at hk;subst hk;exact .str (by simp[D.len,qHE]) hm
 | snil hu=>rw[hu] at hk;simp[kdOf] at hk;subst hk;exact .slice rfl (by simp[D.isNil]) (by simp) (fun _=>rfl)
 | bytes hu he hok hcap hmax=>rw[hu] at hk;simp[kdOf] at hk;subst hk;exact .slice rfl (by simp[D.isNil]) (by omega) (fun h=>by cases h)
 | list hu he hi hok hlen hcap hmax=>rw[hu] at hk;simp[kdOf] at hk;subst hk;exact .slice rfl (by simp[D.isNil]) (by omega) (fun h=>by cases h)
 | pnil hu=>rw[hu] at hk;simp[kdOf] at hk;subst hk;exact .ptr (by simp[D.isNil])
 | ptr hu=>rw[hu] at hk;simp[kdOf] at hk;subst hk;exact .ptr (by simp[D.isNil])
 | mnil hu=>rw[hu] at hk;simp[kdOf] at hk;subst hk;exact .map (by simp[D.isNil]) (by simp[D.len])
 | map hu=>rw[hu] at hk;simp[kdOf] at hk;subst hk;exact .map (by simp[D.isNil]) (by simp[D.isNil])
theorem yRA.shape{t:TypeId}{v:Value}{x:D}(h:yRA P ok w t v x):Shape .sl v x:=by
 obtain⟨e,i,n,xs,hu,hi,⟨h1,h2⟩,h3⟩:=h;cases h3 with
 | nil hv=>subst hv;exact .slice rfl (by simp[D.isNil]) (by simp) (fun _=>rfl)
 | bytes hv he hs =>
  rcases h2 with⟨rfl,_⟩|⟨g,cap,cur,rfl,_,_,h4,h5,_⟩
  ·simp[Value.ownBlock] at hv
  ·exact .slice rfl (by simp[D.isNil]) (by omega) (fun h=>by cases h)
 | list hv he hlen hsz hr =>
  rcases h2 with⟨rfl,_⟩|⟨g,cap,cur,rfl,_,_,h4,h5,_⟩
  ·simp[Value.ownBlock] at hv
  ·exact .slice rfl (by simp[D.isNil]) (by omega) (fun h=>by cases h)
theorem TagsAt.shape{t:TypeId}{v:Value}{x:D}(h:TagsAt P ok w t v x):Shape .mp v x:=by
 cases h with
 | nil=>exact .map (by simp[D.isNil]) (by simp[D.len])
 | map=>exact .map (by simp[D.isNil]) (by simp[D.isNil])
end
section
variable {P:Program} {X:Nat->List D->D} {w0:Base} {J:List D} {st:St} {g:Gh} {w:World} {a:Act}
theorem VT.rest_ok{vt:VT}{u:TypeId}(h:vt.rest=some u){ok:Nat->Prop}{v:Value}{hm:Nat×Nat}{d:D}(hv:qUA P ok w vt v hm d):Rep P ok w u v d:=by
 cases vt <;> simp[VT.rest] at h
 ·subst h;exact hv
 ·subst h;exact hv.1
theorem Mem.rest(h:Mem P X w0 J st g w){n:Nat}{vi:VI}{u:TypeId}(hn:lk n st.vars=some vi)(hr:vi.vt.rest=some u):Rep P (okOf st g w) w u (g.rv n) (vi.de.eval X J) :=
 VT.rest_ok hr (h.va n vi hn)
theorem Mem.cell(h:Mem P X w0 J st g w){n j:Nat}{vi:VI}{u ct:TypeId}(hn:lk n st.vars=some vi)(hr:vi.vt.rest=some u)(hj:(tys P u)[j]? = some ct) :
  Rep P (okOf st g w) w ct ((SV.xc n j).den X J g) ((mkf (.get j) [vi.de]).eval X J):=by
 obtain⟨cv,cd,h1,h2,h3⟩:=(h.rest hn hr).cell hj;have e1:(SV.xc n j).den X J g=cv:=by simp[SV.den,Array.getD_eq_getD_getElem?,h1]
 have e2:(mkf (.get j) [vi.de]).eval X J=cd:=by rw[zEA];simp[zDA,Fn.eval,h2]
 rw[e1,e2];exact h3
theorem zDE(n:Nat){t:TypeId}{de:DE}{ok:Nat->Prop}{v:Value}(h:Rep P ok w t v (de.eval X J))(hv:g.rv n=v):(zCD P n t de).den X J g=v/\(zCD P n t de).ok X J:=by
 unfold zCD;split
 ·rename_i k hu;obtain⟨m,h1,h2,h3⟩:=h.isInt hu;exact⟨by simp[SV.den,h2,D.asInt,h1],⟨m,h2,h3⟩⟩
 ·rename_i hu;obtain⟨m,h1,h2⟩:=h.isBool hu;exact⟨by simp[SV.den,h2,D.asBool,h1],⟨m,h2⟩⟩
 ·rename_i hu;obtain⟨m,h1,h2,h3⟩:=h.isStr hu;exact⟨by simp[SV.den,h2,D.asStr,h1],⟨_,h2,by rw[qHE];exact h3⟩⟩
 ·rename_i hu;obtain⟨m,h1,h2⟩:=h.isFlt hu;exact⟨by simp[SV.den,h2,D.asNat,h1],⟨m,h2⟩⟩
 ·exact⟨by simp[SV.den,hv],trivial⟩
theorem qZF(h:Mem P X w0 J st g w)(s:SV)(hs:s.ok X J):(norm P st s).den X J g=s.den X J g/\(norm P st s).ok X J:=by
 unfold norm;split
 ·rename_i n j;split
  ·rename_i vi hn;split
   ·rename_i u hr;split
    ·rename_i ct hj;have hc:=h.cell hn hr hj;unfold qNJ;split
     ·rename_i k hu;obtain⟨m,h1,h2,h3⟩:=hc.isInt hu;exact⟨by rw[h1];simp only[SV.den,h2,D.asInt],⟨m,h2,h3⟩⟩
     ·rename_i hu;obtain⟨m,h1,h2⟩:=hc.isBool hu;exact⟨by rw[h1];simp only[SV.den,h2,D.asBool],⟨m,h2⟩⟩
     ·rename_i hu;obtain⟨m,h1,h2,h3⟩:=hc.isStr hu;exact⟨by rw[h1];simp only[SV.den,h2,D.asStr],⟨_,h2,by rw[qHE];exact h3⟩⟩
     ·rename_i hu;obtain⟨m,h1,h2⟩:=hc.isFlt hu;exact⟨by rw[h1];simp only[SV.den,h2,D.asNat],⟨m,h2⟩⟩
     ·exact⟨rfl,trivial⟩
    ·exact⟨rfl,hs⟩
   ·exact⟨rfl,hs⟩
  ·exact⟨rfl,hs⟩
 ·exact⟨rfl,hs⟩
mutual
theorem yYA(h:Mem P X w0 J st g w){t:TypeId}:∀ {s:SV} {e:DE},s.ok X J->svT P st t s=some e->Rep P (okOf st g w) w t (s.den X J g) (e.eval X J)
 | .i k d,e,hs,he=>by
  unfold svT at he;split at he
  ·rename_i k' hu;split at he
   ·rename_i hk;subst hk;cases he
    obtain⟨n,h1,h2⟩:=hs;rw[h1];simp only[SV.den,h1,D.asInt];exact .int hu h2
   ·cases he
  ·cases he
 | .b d,e,hs,he=>by
  unfold svT at he;split at he
  ·rename_i hu;cases he
   obtain⟨n,h1⟩:=hs;rw[h1];simp only[SV.den,h1,D.asBool];exact .bool hu
  ·cases he
 | .s d,e,hs,he=>by
  unfold svT at he;split at he
  ·rename_i hu;cases he
   obtain⟨n,h1,h2⟩:=hs;rw[h1];simp only[SV.den,h1,D.asStr]
   have:=Rep.str (P:=P) (ok:=okOf st g w) (w:=w) (s:=⟨n.toArray⟩) hu (by rw[<- qHE];simpa using h2)
   simpa using this
  ·cases he
 | .fl d,e,hs,he=>by
  unfold svT at he;split at he
  ·rename_i hu;cases he
   obtain⟨n,h1⟩:=hs;rw[h1];simp only[SV.den,h1,D.asNat];exact .flt hu
  ·cases he
 | .c .nilp,e,hs,he=>by
  unfold svT at he;split at he
  ·rename_i hu;cases he;exact .pnil hu
  ·cases he
 | .c .nils,e,hs,he=>by
  unfold svT at he;split at he
  ·rename_i hu;cases he;exact .snil hu
  ·cases he
 | .c .nilm,e,hs,he=>by
  unfold svT at he;split at he
  ·rename_i hu;cases he;exact .mnil hu
  ·cases he
 | .c .nilI,e,hs,he=>by simp[svT] at he
 | .c .nilF,e,hs,he=>by simp[svT] at he
 | .c (.fn _),e,hs,he=>by simp[svT] at he
 | .c (.glob _),e,hs,he=>by simp[svT] at he
 | .x n,e,hs,he=>by
  unfold svT at he;split at he
  ·rename_i vi hn;split at he
   ·rename_i hr;cases he;exact h.rest hn hr
   ·cases he
  ·cases he
 | .xc n j,e,hs,he=>by
  unfold svT at he;split at he
  ·rename_i vi hn;split at he
   ·rename_i u hr;split at he
    ·rename_i hj;cases he;exact h.cell hn hr hj
    ·cases he
   ·cases he
  ·cases he
 | .agg l,e,hs,he=>by
  unfold svT at he;split at he
  ·rename_i d hu;split at he
   ·rename_i hd;cases hl:svTs P st (tys P t) l with
    | none=>rw[hl] at he;simp at he
    | some ds =>
     rw[hl] at he;simp only[Option.map_some,Option.some.injEq] at he;subst he;obtain⟨h1,h2,h3,h4⟩:=zPG h (ts:=tys P t) hs hl;rw[zEA];simp only[Fn.eval,SV.den];refine .row hu hd h1 h2 h4 h3
   ·cases he
  ·cases he
 | .oa _ _,e,hs,he=>by simp[svT] at he
 | .osl _ _,e,hs,he=>by simp[svT] at he
 | .ea _ _ _ _,e,hs,he=>by simp[svT] at he
 | .ra _ _,e,hs,he=>by simp[svT] at he
 | .tup _,e,hs,he=>by simp[svT] at he
 | .w _ _,e,hs,he=>by simp[svT] at he
theorem zPG(h:Mem P X w0 J st g w):∀ {ts:List TypeId} {l:List SV} {ds:List DE},oks X J l->svTs P st ts l=some ds ->
  (dens X J g l).length=ts.length/\(zDA X ds J).length=ts.length /\
  (∀(j:Nat) (u:TypeId) (v:Value) (d:D),ts[j]? = some u->(dens X J g l)[j]? = some v->(zDA X ds J)[j]? = some d->Rep P (okOf st g w) w u v d) /\
  ∀v∈dens X J g l,v.cells = #[v]
 | [],[],ds,_,he=>by
  simp only[svTs,Option.some.injEq] at he;subst he
  simp[dens,zDA]
 | [],_::_,ds,_,he=>by simp[svTs] at he
 | _::_,[],ds,_,he=>by simp[svTs] at he
 | t::ts,a::as,ds,hs,he=>by
  unfold svTs at he;split at he
  case h_2=>cases he
  rename_i dt hut;split at he
  ·cases he
  rename_i hagg;split at he
  ·rename_i d ds' h1 h2;cases he;have hr:=yYA h hs.1 h1;obtain⟨i1,i2,i3,i4⟩:=zPG h hs.2 h2;refine⟨by simp[dens,i1],by simp[zDA,i2],?_,?_⟩
   ·intro j u v x hj hv hx;cases j with
    | zero=>simp[dens,zDA] at hj hv hx;subst hj;subst hv;subst hx;exact hr
    | succ j=>simp[dens,zDA] at hj hv hx;exact i3 j u v x hj hv hx
   ·intro v hv;simp only[dens,List.mem_cons] at hv;rcases hv with rfl|hv
    ·exact(hr.notAgg hut (by simpa using hagg)).1
    ·exact i4 v hv
  ·cases he
end
theorem qDC(h:Mem P X w0 J st g w){s:SV}{k:Kd}{e:DE}(hs:s.ok X J)(he:yNE P st s=some (k,e)):Shape k (s.den X J g) (e.eval X J):=by
 unfold yNE at he;split at he
 ·cases he;exact .slice rfl (by simp[D.isNil,DE.eval]) (by simp) (fun _=>rfl)
 ·cases he;exact .map (by simp[D.isNil,DE.eval]) (by simp[D.len,DE.eval])
 ·cases he;exact .ptr (by simp[D.isNil,DE.eval])
 ·cases he;obtain⟨n,h1,h2⟩:=hs;rw[h1];exact .str (by rw[<- qHE];simp[D.len,D.asStr,h1]) (by rw[<- qHE];simpa[D.asStr,h1] using h2)
 ·rename_i n;split at he
  ·rename_i u de hn;cases hk:kdT P u with
   | none=>rw[hk] at he;simp at he
   | some k'=>rw[hk] at he;simp at he;obtain⟨rfl,rfl⟩:=he;exact Rep.shape (h.va n _ hn) hk
  ·rename_i u de hn;cases hk:kdT P u with
   | none=>rw[hk] at he;simp at he
   | some k'=>rw[hk] at he;simp at he;obtain⟨rfl,rfl⟩:=he;exact Rep.shape (h.va n _ hn).1 hk
  ·rename_i u de hn;cases he;exact yRA.shape (h.va n _ hn)
  ·rename_i u de hn;cases he;exact TagsAt.shape (h.va n _ hn)
  ·cases he
 ·rename_i n j;split at he
  ·rename_i vi hn;split at he
   ·rename_i u hr;split at he
    ·rename_i ct hj;cases hk:kdT P ct with
     | none=>rw[hk] at he;simp at he
     | some k'=>rw[hk] at he;simp at he;obtain⟨rfl,rfl⟩:=he;exact Rep.shape (h.cell hn hr hj) hk
    ·cases he
   ·cases he
  ·cases he
 ·cases he
theorem xYD{v:Value}{s:SV}(h:zIE v=some s):s.den X J g=v/\s.ok X J:=by
 unfold zIE at h;split at h
 ·split at h
  ·rename_i hw;cases h;exact⟨rfl,⟨_,rfl,hw⟩⟩
  ·cases h
 ·cases h;exact⟨rfl,⟨_,rfl⟩⟩
 ·split at h
  ·rename_i s hsz;cases h;exact⟨rfl,⟨_,rfl,by rw[qHE];simp[maxLen];omega⟩⟩
  ·cases h
 ·cases h;exact⟨rfl,⟨_,rfl⟩⟩
 ·cases h;exact⟨rfl,trivial⟩
 ·cases h;exact⟨rfl,trivial⟩
 ·cases h;exact⟨rfl,trivial⟩
 ·cases h;exact⟨rfl,trivial⟩
 ·cases h;exact⟨rfl,trivial⟩
 ·cases h
theorem qBC:∀ {vs:List Value} {l:List SV},yME vs=some l->dens X J g l=vs/\oks X J l
 | [],l,h=>by simp[yME] at h;subst h;exact⟨rfl,trivial⟩
 | v::vs,l,h=>by
  simp only[yME,Option.bind_eq_bind,Option.bind_eq_some_iff] at h;obtain⟨a,h1,as,h2,h3⟩:=h;cases h3;obtain⟨i1,i2⟩:=xYD (X:=X) (J:=J) (g:=g) h1;obtain⟨j1,j2⟩:=qBC (vs:=vs) h2;exact⟨by simp[dens,i1,j1],i2,j2⟩
theorem qFG{v:Value}{s:SV}(h:qRJ v=some s):v=s.den X J g/\s.ok X J:=by
 unfold qRJ at h;split at h
 ·rename_i cs;obtain⟨l,hl,rfl⟩:=Option.map_eq_some_iff.1 h;obtain⟨h1,h2⟩:=qBC (X:=X) (J:=J) (g:=g) hl;exact⟨by simp only[SV.den];rw[h1],by simpa only[SV.ok] using h2⟩
 ·obtain⟨h1,h2⟩:=xYD (X:=X) (J:=J) (g:=g) h;exact⟨h1.symm,h2⟩
theorem qQC(h:Env X J st g a){o:Operand}{s:SV}(ho:opd st o=some s):a.eval o=s.den X J g/\s.ok X J:=by
 cases o with
 | tmp t =>
  obtain⟨h1,h2⟩:=h.tm t s ho;exact⟨by simp[Act.eval,Array.getD_eq_getD_getElem?,h1],h2⟩
 | const v =>
  obtain⟨h1,h2⟩:=qFG (X:=X) (J:=J) (g:=g) ho;exact⟨h1,h2⟩
 | «global» n=>simp only[opd,Option.some.injEq] at ho;subst ho;exact⟨rfl,trivial⟩
 | func f=>simp only[opd,Option.some.injEq] at ho;subst ho;exact⟨rfl,trivial⟩
theorem qLA(h:Env X J st g a):∀ {os:List Operand} {l:List SV},opds st os=some l->os.map a.eval=dens X J g l/\oks X J l
 | [],l,ho=>by simp[opds] at ho;subst ho;exact⟨rfl,trivial⟩
 | o::os,l,ho=>by
  simp only[opds,Option.bind_eq_bind,Option.bind_eq_some_iff] at ho;obtain⟨b,h1,bs,h2,h3⟩:=ho;cases h3;obtain⟨i1,i2⟩:=qQC h h1;obtain⟨j1,j2⟩:=qLA h h2;exact⟨by simp[dens,i1,j1],i2,j2⟩
theorem qSC(h:Env X J st g a):∀ {os:List (Nat×Operand)} {l:List (Nat×SV)},zGG st os=some l->os.map (fun p=>(p.1,a.eval p.2))=l.map (fun p=>(p.1,p.2.den X J g)) /\ ∀p∈l,p.2.ok X J
 | [],l,ho=>by simp[zGG] at ho;subst ho;exact⟨rfl,by simp⟩
 | (i,o)::os,l,ho=>by
  simp only[zGG,Option.bind_eq_bind,Option.bind_eq_some_iff] at ho;obtain⟨b,h1,bs,h2,h3⟩:=ho;cases h3;obtain⟨i1,i2⟩:=qQC h h1;obtain⟨j1,j2⟩:=qSC h h2;refine⟨by simp[i1,j1],?_⟩;intro p hp;rcases List.mem_cons.1 hp with rfl|hp
  ·exact i2
  ·exact j2 p hp
end
end Go.Dx
namespace Go.Dx
open Go
section
variable {P:Program} {w:World}
theorem yAH{t:TypeId}{d:TypeDesc}(hu:P.underlying t=some d)(w:World):(isAgg t).run P w = .ok (zGA d) w:=by
 simp only[isAgg,Sem.run_bind,run_underlying hu,Result.andThen_ok];cases d <;> rfl
theorem xAA{t:TypeId}{i:TypeInfo}(hi:P.info? t=some i)(w:World):(sizeOf t).run P w = .ok i.size w:=by
 simp[sizeOf,typeInfo,hi]
theorem zWB(b off j:Nat):(⟨b,off,none⟩:Addr).add j=⟨b,off+j,none⟩:=by unfold Addr.add;split <;> simp_all
theorem yLB{t:TypeId}{d:TypeDesc}{i:TypeInfo}{b off:Nat}{vs:List Value}(hu:P.underlying t=some d)(hi:P.info? t=some i)(hc:xQA w b off vs)
  (hl:vs.length=if zGA d then i.size else 1) :
  (loadVar t ⟨b,off,none⟩).run P w = .ok (if zGA d then .agg vs.toArray else vs.getD 0 undef) w:=by
 simp only[loadVar,Sem.run_bind,yAH hu,Result.andThen_ok];cases hd:zGA d with
 | true =>
  rw[hd] at hl;simp only[if_true] at hl;have hrun:(loadCells ⟨b,off,none⟩ i.size).run P w = .ok vs.toArray w:=by
   rw[<- hl];exact run_loadCells_list w _ vs (fun j v hj=>by rw[zWB];exact hc j v hj)
  simp[xAA hi,hrun]
 | false =>
  rw[hd] at hl;simp at hl;obtain⟨v,rfl⟩:=List.length_eq_one_iff.1 hl
  have:=hc 0 v rfl
  simp only[Nat.add_zero] at this;simp[load,Sem.run,this]
theorem qXD{t ty:TypeId}{i:TypeInfo}{b off:Nat}{cur:Array Value}{v:Value}{vs:List Value}(hi:P.info? t=some i)
  (hg:w.heap[b]? = some (.cells cur ty (0,0))) (hv:v.cells.toList=vs) (hsz:vs.length=i.size) (hfit:off+vs.length<=cur.size) (h1:∀u∈vs,u.oneCell'=true) :
  (storeVar t ⟨b,off,none⟩ v).run P w = .ok () (w.setRow b (cur.toList.take off++vs++cur.toList.drop (off+vs.length)).toArray):=by
 have hst:=run_storeCells_at P b off ty vs 0 cur w hg (by simpa using hfit) h1;simp only[Nat.add_zero] at hst;have hsize:v.cells.size=i.size:=by rw[<- hsz,<- hv,Array.length_toList]
 simp[storeVar,xAA hi,hsize,hv,hst]
theorem qXC(b:Nat)(cs:Array Value)(w:World):Fr (fun x=>x=b) w (w.setRow b cs) :=
 ⟨rfl,rfl,rfl,by simp,fun k _ hk=>setRow_other w b k cs hk⟩
theorem qNB(e:TypeId)(cs:Array Value):(newRow e cs).run P w = .ok ⟨w.heap.size,0,none⟩ (w.alloc (.cells cs e)):=by
 simp[newRow]
theorem qID{t:TypeId}{d:TypeDesc}(hu:P.underlying t=some d):∃i,P.info? t=some i:=by
 unfold Program.underlying at hu;split at hu
 ·exact⟨_,‹_›⟩
 ·exact⟨_,‹_›⟩
 ·cases hu
theorem xRB{o:Oper}{a:Act}{K:Act->World->Prop}{Q:Exit->Act->World->Prop}{v:Value}{w':World}(hr:(execOp a.eval o).run P w = .ok (.value v) w')(h:K (a.put o.dst v) w'):o.wp P a w K Q:=by
 unfold Oper.wp;rw[hr];exact h
theorem xNJ{o:Oper}{a:Act}{K:Act->World->Prop}{Q:Exit->Act->World->Prop}{w':World}(hr:(execOp a.eval o).run P w = .ok .skip w')(h:K (a.put o.dst undef) w'):o.wp P a w K Q:=by
 unfold Oper.wp;rw[hr];exact h
theorem xAH{o:Oper}{a:Act}{K:Act->World->Prop}{Q:Exit->Act->World->Prop}{f:FuncId}{args:Array Value}{w':World}(hr:(execOp a.eval o).run P w = .ok (.enter f args) w')
  (h:Calls P f args w' fun e w''=>∃v,e = .returned v/\K (a.put o.dst v) w''):o.wp P a w K Q:=by
 unfold Oper.wp;rw[hr]
 exact h.mono fun e w'' ⟨v,he,hk⟩=>by subst he;exact hk
end
section
variable {P:Program} {X:Nat->List D->D} {w0:Base} {J:List D} {st:St} {g:Gh} {w:World} {a:Act}
theorem zAG(h:Mem P X w0 J st g w){s:SV}(hs:oneS P st s=true):(s.den X J g).oneCell'=true/\(s.den X J g).cells = #[s.den X J g]:=by
 have key:∀v:Value,v.cells = #[v]->v.oneCell'=true->v.oneCell'=true/\v.cells = #[v]:=fun v h1 h2=>⟨h2,h1⟩
 unfold oneS at hs;split at hs
 ·cases hs
 ·cases hs
 ·rename_i n;split at hs
  ·rename_i vi hn;have hv:=h.va n vi hn;obtain⟨vt,de⟩:=vi;cases vt with
   | set u =>
    simp only at hs;split at hs
    ·rename_i du hu
     have:=Rep.notAgg hv hu (by simpa using hs)
     exact⟨this.2.2,this.1⟩
    ·cases hs
   | own u =>
    exact(yRA.shape hv).one
   | tags u =>
    exact(TagsAt.shape hv).one
   | row u=>cases hs
   | dead=>cases hs
   | gi=>cases hs
  ·cases hs
 ·rename_i n j;split at hs
  ·rename_i vi hn;split at hs
   ·rename_i u hr;split at hs
    ·rename_i ct hj;split at hs
     ·rename_i du hu
      have:=(h.cell hn hr hj).notAgg hu (by simpa using hs)
      exact⟨this.2.2,this.1⟩
     ·cases hs
    ·cases hs
   ·cases hs
  ·cases hs
 ·rename_i h1 h2 h3 h4;cases s with
  | c c=>cases c <;> exact⟨rfl,rfl⟩
  | agg l=>exact absurd rfl (h1 l)
  | tup l=>exact absurd rfl (h2 l)
  | x n=>exact absurd rfl (h3 n)
  | xc n j=>exact absurd rfl (h4 n j)
  | i=>exact⟨rfl,rfl⟩
  | b=>exact⟨rfl,rfl⟩
  | s=>exact⟨rfl,rfl⟩
  | fl=>exact⟨rfl,rfl⟩
  | oa=>exact⟨rfl,rfl⟩
  | osl=>exact⟨rfl,rfl⟩
  | ra=>exact⟨rfl,rfl⟩
  | w k l =>
   cases k with
   | clo f=>exact⟨rfl,rfl⟩
   | ifc t=>exact⟨rfl,rfl⟩
   | pre k=>simp only[SV.den,WK.den];split <;> exact⟨rfl,rfl⟩
   | suf k=>simp only[SV.den,WK.den];split <;> exact⟨rfl,rfl⟩
  | ea n e k z =>
   obtain⟨b,hb⟩:=qAH ((e.eval X J).asInt.toNat*z+k) (g.rv n);simp only[SV.den,hb];exact⟨rfl,rfl⟩
theorem xUI(h:Mem P X w0 J st g w){l:List SV}(hl:l.all (oneS P st)=true):∀v∈dens X J g l,v.oneCell'=true:=by
 intro v hv;rw[zRA] at hv;obtain⟨s,hs,rfl⟩:=List.mem_map.1 hv;exact(zAG h (List.all_eq_true.1 hl s hs)).1
theorem yKA(l:List SV):(dens X J g l).length=l.length:=by rw[zRA,List.length_map]
theorem xXH(n:Nat)(v:Value)(hv:g.rv n=v)(k off:Nat)(hk:off+k<=v.cells.size):dens X J g ((List.range k).map fun j=>SV.xc n (off+j))=(v.cells.toList.drop off).take k:=by
 rw[zRA,List.map_map];apply List.ext_getElem?;intro j;rw[List.getElem?_map,List.getElem?_take,List.getElem?_drop];by_cases hj:j<k
 ·rw[List.getElem?_range hj,if_pos hj]
  have:off+j<v.cells.size:=by omega
  simp[SV.den,hv,Array.getD_eq_getD_getElem?,this]
 ·rw[if_neg hj];simp[List.getElem?_eq_none,Nat.le_of_not_lt hj]
theorem oks_xc(n k off:Nat):oks X J ((List.range k).map fun j=>SV.xc n (off+j)):=by
 rw[yHA];intro s hs;obtain⟨j,_,rfl⟩:=List.mem_map.1 hs;trivial
theorem zLD(h:Mem P X w0 J st g w){t:TypeId}{s:SV}{l:List SV}(hs:s.ok X J)(hf:flat P st t s=some l) :
  (s.den X J g).cells.toList=dens X J g l/\oks X J l/\(∀v∈dens X J g l,v.oneCell'=true):=by
 unfold flat at hf;split at hf
 ·rename_i d i hu hi;split at hf
  ·rename_i hd;split at hf
   ·rename_i n;split at hf
    ·rename_i vi hn;split at hf
     ·rename_i hc;split at hf
      ·rename_i hall;cases hf;have hr:=h.rest hn hc.1;have hsz:=hr.size;have e:=xXH (X:=X) (J:=J) (g:=g) n _ rfl i.size 0 (by rw[hsz.1];omega);simp only[Nat.zero_add,List.drop_zero] at e;refine⟨?_,by have:=oks_xc (X:=X) (J:=J) n i.size 0;simpa using this,xUI h hall⟩;rw[e];simp only[SV.den];rw[List.take_of_length_le (by rw[Array.length_toList,hsz.1];omega)]
      ·cases hf
     ·cases hf
    ·cases hf
   ·split at hf
    ·rename_i hc;cases hf
     exact⟨by simp[SV.den,Value.cells],hs,xUI h hc.2⟩
    ·cases hf
   ·cases hf
  ·split at hf
   ·rename_i ho;cases hf
    obtain⟨h1,h2⟩:=zAG h ho;exact⟨by rw[h2];simp[dens],⟨hs,trivial⟩,by intro v hv;simp[dens] at hv;subst hv;exact h1⟩
   ·cases hf
 ·cases hf
theorem ySI{n:Nat}:∀(l:List SV) (j:Nat),zWD n j l=true->l=(List.range l.length).map fun k=>SV.xc n (j+k)
 | [],_,_=>rfl
 | .xc m k::r,j,h=>by
  simp only[zWD,baZ,beq_iff_eq] at h;obtain⟨⟨rfl,rfl⟩,h3⟩:=h;have ih:=ySI r (k+1) h3;simp only[List.length_cons,List.range_succ_eq_map,List.map_cons,List.map_map,Nat.add_zero,List.cons.injEq,true_and]
  conv=>lhs;rw[ih]
  apply List.map_congr_left;intro x _;simp only[Function.comp_apply,Nat.succ_eq_add_one]
  congr 1
  omega
 | .i _ _::_,_,h=>by simp[zWD] at h
 | .b _::_,_,h=>by simp[zWD] at h
 | .s _::_,_,h=>by simp[zWD] at h
 | .fl _::_,_,h=>by simp[zWD] at h
 | .c _::_,_,h=>by simp[zWD] at h
 | .x _::_,_,h=>by simp[zWD] at h
 | .agg _::_,_,h=>by simp[zWD] at h
 | .oa _ _::_,_,h=>by simp[zWD] at h
 | .osl _ _::_,_,h=>by simp[zWD] at h
 | .ra _ _::_,_,h=>by simp[zWD] at h
 | .tup _::_,_,h=>by simp[zWD] at h
 | .w _ _::_,_,h=>by simp[zWD] at h
theorem qZA(h:Mem P X w0 J st g w){t:TypeId}{l:List SV}{s:SV}(hl:oks X J l)(hg:yED P st t l=some s) :
  ∃d i,P.underlying t=some d/\P.info? t=some i/\l.length=(if zGA d then i.size else 1) /\
   s.den X J g=(if zGA d then .agg (dens X J g l).toArray else (dens X J g l).getD 0 undef)/\s.ok X J:=by
 unfold yED at hg;split at hg
 ·rename_i d i hu hi;refine⟨d,i,hu,hi,?_⟩;cases hd:zGA d with
  | true =>
   rw[hd] at hg;simp only[if_true] at hg ⊢;split at hg
   ·rename_i hlen;refine⟨hlen,?_⟩;split at hg
    ·rename_i n r;split at hg
     ·rename_i vi hn;split at hg
      ·rename_i hc;cases hg;have hr:=h.rest hn hc.1;have he:=ySI _ 0 hc.2.2.1;have hsz:=hr.size;have e:=xXH (X:=X) (J:=J) (g:=g) n _ rfl i.size 0 (by rw[hsz.1];omega);rw[he,hlen];simp only[Nat.zero_add,List.drop_zero] at e ⊢;rw[e];refine⟨?_,trivial⟩;simp only[SV.den];rw[List.take_of_length_le (by rw[Array.length_toList,hsz.1];omega)];simpa using(hr.isAgg hu hd).1
      ·cases hg;exact⟨by simp[SV.den],hl⟩
     ·cases hg;exact⟨by simp[SV.den],hl⟩
    ·cases hg;exact⟨by simp[SV.den],hl⟩
   ·cases hg
  | false =>
   rw[hd] at hg;simp only[bfZ,if_false] at hg ⊢;split at hg
   ·rename_i x;cases hg;obtain⟨h1,h2⟩:=qZF h x hl.1;exact⟨rfl,by rw[h1];simp[dens],h2⟩
   ·cases hg
 ·cases hg
theorem qKE{t:TypeId}{n:Nat}(h:xXD P t=some n):∃d i,P.underlying t=some d/\P.info? t=some i/\n=if zGA d then i.size else 1:=by
 unfold xXD at h;split at h
 ·rename_i d i hu hi;refine⟨d,i,hu,hi,?_⟩;split at h <;> simp_all
 ·cases h
theorem xTC.cells{o:Nat}{cs:List SV}(h:xTC X J g w o cs):xQA w (g.rb o) 0 (dens X J g cs):=by
 obtain⟨⟨t,h1⟩,_⟩:=h;intro j v hj;rw[Nat.zero_add,cell_of_row w (g.rb o) j _ t (0,0) h1];simpa using hj
theorem xBD(h:Mem P X w0 J st g w){t:TypeId}{p s:SV}(hl:qMH P st t p=some s):(Instr.loadAt t (p.den X J g)).run P w = .ok (s.den X J g) w/\s.ok X J:=by
 simp only[qMH,Option.bind_eq_bind,Option.bind_eq_some_iff] at hl;obtain⟨n,hn,hl⟩:=hl;obtain⟨d,i,hu,hi,rfl⟩:=qKE hn;split at hl
 ·rename_i o off;simp only[Option.bind_eq_some_iff] at hl;obtain⟨cs,ho,hg⟩:=hl;have hob:=h.ob o cs ho;have hoks:oks X J ((cs.drop off).take (if zGA d then i.size else 1)):=by
   rw[yHA];intro s hs;exact yHA.1 hob.2.2 s (List.mem_of_mem_drop (List.mem_of_mem_take hs))
  obtain⟨d',i',hu',hi',hlen,hden,hok⟩:=qZA h hoks hg;rw[hu] at hu';cases hu';rw[hi] at hi';cases hi'
  refine⟨?_,hok⟩;have hc:xQA w (g.rb o) off (dens X J g ((cs.drop off).take (if zGA d then i.size else 1))):=by
   have:=(hob.cells).part off (if zGA d then i.size else 1)
   rw[Nat.zero_add] at this;rw[zRA,List.map_take,List.map_drop,<- zRA];exact this
  have:=yLB hu hi hc (by rw[yKA,hlen])
  rw[hden];simpa[Instr.loadAt,Instr.sureAddr,SV.den] using this
 ·rename_i m off;split at hl
  ·rename_i u de hm;by_cases hle:off+(if zGA d then i.size else 1)<=(tys P u).length
   ·rw[if_pos hle] at hl;have hv:=h.va m _ hm;have hsz:=hv.1.size;obtain⟨d',i',hu',hi',hlen,hden,hok⟩:=qZA h (oks_xc m _ off) hl;rw[hu] at hu';cases hu';rw[hi] at hi';cases hi'
    refine⟨?_,hok⟩;have e:=xXH (X:=X) (J:=J) (g:=g) m _ rfl (if zGA d then i.size else 1) off (by rw[hsz.1];exact hle);have hc:xQA w (g.rh m).1 ((g.rh m).2+off) (dens X J g ((List.range (if zGA d then i.size else 1)).map fun j=>SV.xc m (off+j))):=by
     rw[e];exact hv.2.2.part off _
    have:=yLB hu hi hc (by rw[yKA,hlen])
    rw[hden];simpa[Instr.loadAt,Instr.sureAddr,SV.den] using this
   ·rw[if_neg hle] at hl;cases hl
  ·cases hl
 ·rename_i k;by_cases h0:(if zGA d then i.size else 1)=0
  ·rw[if_pos h0] at hl;obtain⟨d',i',hu',hi',hlen,hden,hok⟩:=qZA h (l:=[]) trivial hl;rw[hu] at hu';cases hu';rw[hi] at hi';cases hi'
   refine⟨?_,hok⟩;have hc:xQA w k 0 (dens X J g []):=fun j v hj=>by simp[dens] at hj
   have:=yLB hu hi hc (by rw[yKA,hlen])
   rw[hden];simpa[Instr.loadAt,Instr.sureAddr,SV.den,CV.den] using this
  ·rw[if_neg h0] at hl;cases hl
 ·cases hl
end
end Go.Dx
namespace Go.Dx
open Go
def LIM:Nat:=140737488355328
mutual
def Ob.holds(X:Nat->List D->D)(Pre:Nat->List D->Prop):Ob->List D->Prop
 | .room d n,J=>(d.eval X J).len*n<=LIM/\(d.eval X J).len<=maxLen
 | .cap d n,J=>0<=(d.eval X J).asInt/\(d.eval X J).asInt.toNat*n<=LIM/\(d.eval X J).asInt.toNat<=maxLen
 | .nz e,J=>(e.eval X J).asInt≠0
 | .ge0 e,J=>0<=(e.eval X J).asInt
 | .term lv go is bs,J=>∃n:Nat,(go.eval X (J.take lv++(.int n :: .int n::zQA (fun i r acc=>zDA X bs (J.take lv++(.int i::r::acc))) 0 (qGB n) (zDA X is J)))).asBool=false
 | .defn n lv s is bs,J=>X n (zDA X (yJG lv) J) = .row (zQA (fun i r acc=>zDA X bs (J.take lv++(.int i::r::acc))) 0 (s.eval X J).rows (zDA X is J))
 | .idx e d b,J=>0<=(e.eval X J).asInt/\(if b then (e.eval X J).asInt.toNat<(d.eval X J).len else (e.eval X J).asInt.toNat<=(d.eval X J).len)
 | .pre k l,J=>Pre k (zDA X l J)
 | .all s is bs os,J=>∀k,k<(s.eval X J).rows.length ->
   zCA X Pre os (J++(.int k::(s.eval X J).rows.getD k .nil::zQA (fun i r acc=>zDA X bs (J++(.int i::r::acc))) 0 ((s.eval X J).rows.take k) (zDA X is J)))
 | .when c b os,J=>(c.eval X J).asBool=b->zCA X Pre os J
def zCA(X:Nat->List D->D)(Pre:Nat->List D->Prop):List Ob->List D->Prop
 | [],_=>True
 | o::os,J=>o.holds X Pre J/\zCA X Pre os J
end
theorem zKA{X:Nat->List D->D}{Pre:Nat->List D->Prop}{J:List D}:∀ {l:List Ob},zCA X Pre l J ↔ ∀o∈l,o.holds X Pre J
 | []=>by simp[zCA]
 | o::os=>by simp[zCA,zKA (l:=os)]
structure Ext (st:St) (g:Gh) (st':St) (g':Gh):Prop where
 rv:∀n vi,lk n st.vars=some vi->(∃vi',lk n st'.vars=some vi')/\g'.rv n=g.rv n/\g'.rh n=g.rh n
 rb:∀o cs,lk o st.objs=some cs->(∃cs',lk o st'.objs=some cs')/\g'.rb o=g.rb o
theorem Ext.refl(st:St)(g:Gh):Ext st g st g:=⟨fun n vi h=>⟨⟨vi,h⟩,rfl,rfl⟩,fun o cs h=>⟨⟨cs,h⟩,rfl⟩⟩
theorem Ext.trans{s1 s2 s3:St}{g1 g2 g3:Gh}(h:Ext s1 g1 s2 g2)(k:Ext s2 g2 s3 g3):Ext s1 g1 s3 g3 :=
 ⟨fun n vi hn=>by
  obtain⟨⟨vi',h1⟩,h2,h3⟩:=h.rv n vi hn;obtain⟨h4,h5,h6⟩:=k.rv n vi' h1;exact⟨h4,h5.trans h2,h6.trans h3⟩,
  fun o cs ho=>by
  obtain⟨⟨c',h1⟩,h2⟩:=h.rb o cs ho;obtain⟨h4,h5⟩:=k.rb o c' h1;exact⟨h4,h5.trans h2⟩⟩
theorem Ext.keys{st st':St}{g:Gh}(hv:∀n vi,lk n st.vars=some vi -> ∃vi',lk n st'.vars=some vi')(ho:∀o cs,lk o st.objs=some cs -> ∃cs',lk o st'.objs=some cs'):Ext st g st' g :=
 ⟨fun n vi h=>⟨hv n vi h,rfl,rfl⟩,fun o cs h=>⟨ho o cs h,rfl⟩⟩
section
variable {P:Program} {X:Nat->List D->D} {w0:Base} {J:List D} {st:St} {g:Gh} {w:World} {a:Act}
theorem qOA{α:Type}{m:Nat}{b:α}{l:List (Nat×α)}(n:Nat)(x:α)(h:lk n l=some x):∃y,lk n (upd m b l)=some y:=by
 by_cases hm:m=n
 ·subst hm;exact⟨b,zZA⟩
 ·exact⟨x,by rw[yJA hm];exact h⟩
theorem xVB{α:Type}{m:Nat}{b:α}{l:List (Nat×α)}(n:Nat)(x:α)(h:lk n l=some x):∃y,lk n ((m,b)::l)=some y:=by
 by_cases hm:m=n
 ·subst hm;exact⟨b,zIA⟩
 ·exact⟨x,by rw[zHA hm];exact h⟩
theorem qNA{n:Nat}(hf:st.freshV n=true):lk n st.vars=none:=by
 simp only[St.freshV,baZ] at hf;simpa using hf.1.1.1
theorem qGH{n:Nat}(hf:st.freshO n=true):lk n st.objs=none:=by
 simp only[St.freshO,baZ] at hf;simpa using hf.1.1.1
theorem Env.setV(h:Env X J st g a){n:Nat}(hf:st.freshV n=true)(v:Value)(hm:Nat×Nat):Env X J st (g.setV n v hm) a:=by
 simp only[St.freshV,baZ,List.all_eq_true,Bool.not_eq_true'] at hf;refine⟨fun s sv hs=>?_,h.df,h.sz⟩;obtain⟨h1,h2⟩:=h.tm s sv hs;rw[zID X J g n v hm sv (by simpa using hf.1.1.2 _ (zBB hs))];exact⟨h1,h2⟩
theorem Env.setO(h:Env X J st g a){n:Nat}(hf:st.freshO n=true)(b:Nat):Env X J st (g.setO n b) a:=by
 simp only[St.freshO,baZ,List.all_eq_true,Bool.not_eq_true'] at hf;refine⟨fun s sv hs=>?_,h.df,h.sz⟩;obtain⟨h1,h2⟩:=h.tm s sv hs;rw[yHG X J g n b sv (by simpa using hf.1.1.2 _ (zBB hs))];exact⟨h1,h2⟩
theorem Env.of_env(h:Env X J st g a){st':St}(he:st'.env=st.env)(hn:st'.nt=st.nt):Env X J st' g a :=
 ⟨fun s sv hs=>h.tm s sv (he▸hs),h.df,h.sz.trans hn.symm⟩
theorem Ext.setV{st':St}{n:Nat}(hf:lk n st.vars=none)(v:Value)(hm:Nat×Nat)(hv:∀n vi,lk n st.vars=some vi -> ∃vi',lk n st'.vars=some vi')(ho:∀o cs,lk o st.objs=some cs -> ∃cs',lk o st'.objs=some cs'):Ext st g st' (g.setV n v hm) :=
 ⟨fun m vi hmm=>by
  have hne:m≠n:=fun e=>by subst e;rw[hf] at hmm;cases hmm
  exact⟨hv m vi hmm,by simp[Gh.setV,hne],by simp[Gh.setV,hne]⟩,fun o cs h=>⟨ho o cs h,rfl⟩⟩
theorem Ext.setO{st':St}{n:Nat}(hf:lk n st.objs=none)(b:Nat)(hv:∀n vi,lk n st.vars=some vi -> ∃vi',lk n st'.vars=some vi')(ho:∀o cs,lk o st.objs=some cs -> ∃cs',lk o st'.objs=some cs'):Ext st g st' (g.setO n b) :=
 ⟨fun m vi hmm=>⟨hv m vi hmm,rfl,rfl⟩,fun o cs h=>by
  have hne:o≠n:=fun e=>by subst e;rw[hf] at h;cases h
  exact⟨ho o cs h,by simp[Gh.setO,hne]⟩⟩
theorem yPH(h:Mem P X w0 J st g w){t:TypeId}{p v:SV}{st':St}(hv:v.ok X J)(hs:qTK P st t p v=some st') :
  ∃w',(Instr.storeAt t (p.den X J g) (v.den X J g)).run P w = .ok () w'/\Mem P X w0 J st' g w'/\st'.env=st.env/\st'.nt=st.nt/\st'.obl=st.obl/\Ext st g st' g:=by
 simp only[qTK,Option.bind_eq_bind,Option.bind_eq_some_iff] at hs;obtain⟨l,hl,i,hi,hs⟩:=hs;obtain⟨hd,hok,h1⟩:=zLD h hv hl;split at hs
 ·cases hs
 rename_i hlen;simp only[ne_eq,Decidable.not_not] at hlen;split at hs
 ·rename_i o off;simp only[Option.bind_eq_some_iff] at hs;obtain⟨cs,ho,hs⟩:=hs;split at hs
  ·rename_i hle;cases hs;obtain⟨⟨ty,hg⟩,ho1,ho2⟩:=h.ob o cs ho;have hst:=qXD (P:=P) (t:=t) (v:=v.den X J g) hi hg hd (by rw[yKA];exact hlen) (by rw[yKA];simp[yKA];exact hle) h1;have hnew:(dens X J g (cs.take off++l++cs.drop (off+l.length))).toArray=((dens X J g cs).toArray.toList.take off++dens X J g l++(dens X J g cs).toArray.toList.drop (off+(dens X J g l).length)).toArray:=by
    simp[zRA]
   refine⟨w.setRow (g.rb o) (dens X J g (cs.take off++l++cs.drop (off+l.length))).toArray,by rw[hnew];simp only[Instr.storeAt,Instr.sureAddr,SV.den,Sem.run_bind,Sem.run_pure,Result.andThen_ok];exact hst,?_,rfl,rfl,rfl,Ext.keys (fun n vi hn=>⟨vi,hn⟩) (fun p c hp=>qOA p c hp)⟩;refine h.setObj (t:=ty) ho ?_ (qXC _ _ _) ?_ ?_
   ·exact setRow_heap w _ _ _ _ _ hg
   ·intro u hu;rw[zRA,List.map_append,List.map_append,<- zRA,<- zRA,<- zRA] at hu;simp only[List.mem_append] at hu;rcases hu with(hu|hu)|hu
    ·refine ho1 u ?_;rw[zRA] at hu ⊢;rw[List.map_take] at hu;exact List.mem_of_mem_take hu
    ·exact h1 u hu
    ·refine ho1 u ?_;rw[zRA] at hu ⊢;rw[List.map_drop] at hu;exact List.mem_of_mem_drop hu
   ·rw[yHA];intro u hu;simp only[List.mem_append] at hu;rcases hu with(hu|hu)|hu
    ·exact yHA.1 ho2 u (List.mem_of_mem_take hu)
    ·exact yHA.1 hok u hu
    ·exact yHA.1 ho2 u (List.mem_of_mem_drop hu)
  ·cases hs
 ·cases hs
theorem zQD(h:Mem P X w0 J st g w)(he:Env X J st g a){cells:List SV}{n:Nat}{st':St}(t:TypeId)(hn:newO st cells n=some st')(h1:∀v∈dens X J g cells,v.oneCell'=true)(h2:oks X J cells) :
  Mem P X w0 J st' (g.setO n w.heap.size) (w.alloc (.cells (dens X J g cells).toArray t))/\Env X J st' (g.setO n w.heap.size) a/\Ext st g st' (g.setO n w.heap.size)/\(SV.oa n 0).den X J (g.setO n w.heap.size) = .pointer (some ⟨w.heap.size,0,none⟩)/\st'.obl=st.obl/\st'.env=st.env:=by
 unfold newO at hn;split at hn
 ·rename_i hc;cases hn;simp only[baZ,Bool.not_eq_true'] at hc;refine⟨h.newObj n cells t hc.1 h1 h2 hc.2,(he.setO hc.1 _).of_env rfl rfl,Ext.setO (qGH hc.1) _ (fun n vi hn=>⟨vi,hn⟩) (fun o cs ho=>xVB o cs ho),by simp[SV.den,Gh.setO],rfl,rfl⟩
 ·cases hn
theorem zHB{t:TypeId}{l:List SV}(h:xLE P t=some l):∃i z,P.info? t=some i/\i.zero=some z/\dens X J g l=z.cells.toList/\oks X J l/\l.length=i.size:=by
 simp only[xLE,Option.bind_eq_bind,Option.bind_eq_some_iff] at h;obtain⟨i,hi,z,hz,c,hc,h⟩:=h;split at h
 ·rename_i hlen;cases h
  obtain⟨h1,h2⟩:=qBC (X:=X) (J:=J) (g:=g) hc;exact⟨i,z,hi,hz,h1,h2,hlen⟩
 ·cases h
theorem xSH{v:Value}{s:SV}(h:zIE v=some s):v.oneCell'=true:=by
 unfold zIE at h;split at h <;> first|rfl|cases h
theorem qDF:∀ {vs:List Value} {l:List SV},yME vs=some l -> ∀v∈vs,v.oneCell'=true
 | [],_,_=>by simp
 | v::vs,l,h=>by
  simp only[yME,Option.bind_eq_bind,Option.bind_eq_some_iff] at h;obtain⟨a,h1,as,h2,h3⟩:=h;intro u hu;rcases List.mem_cons.1 hu with rfl|hu
  ·exact xSH h1
  ·exact qDF h2 u hu
theorem zFD{t:TypeId}{l:List SV}(h:xLE P t=some l):∀v∈dens X J g l,v.oneCell'=true:=by
 obtain⟨i,z,hi,hz,hd,_,_⟩:=zHB (X:=X) (J:=J) (g:=g) h;rw[hd];simp only[xLE,Option.bind_eq_bind,Option.bind_eq_some_iff] at h;obtain⟨i',hi',z',hz',c,hc,_⟩:=h;rw[hi] at hi';cases hi';rw[hz] at hz';cases hz'
 exact qDF hc
theorem qKB{t:TypeId}{i:TypeInfo}{z:Value}(hi:P.info? t=some i)(hz:i.zero=some z)(w:World):(zeroValue t).run P w = .ok z w:=by
 simp[zeroValue,typeInfo,hi,hz]
theorem zMI{t:TypeId}{i:TypeInfo}{z:Value}(hi:P.info? t=some i)(hz:i.zero=some z)(w:World)(old:Value) :
  (Instr.alloc t true old).run P w = .ok (.pointer (some ⟨w.heap.size,0,none⟩)) (w.alloc (.cells z.cells t)):=by
 simp only[Instr.alloc,Sem.run_bind,qKB hi hz,Result.andThen_ok,newVar,qNB,Sem.run_pure]
end
end Go.Dx
namespace Go.Dx
open Go
section
variable {P:Program} {X:Nat->List D->D} {w0:Base} {J:List D} {st:St} {g:Gh} {w:World} {a:Act}
theorem qSG(off:Nat):∀(l:List Value) (s:Nat) (cs:List Value),off+s+l.length<=cs.length ->
  ((l.zipIdx s).foldl (fun(cs:Array Value) (x:Value×Nat)=>cs.setIfInBounds (off+x.2) x.1) cs.toArray)=(cs.take (off+s)++l++cs.drop (off+s+l.length)).toArray
 | [],s,cs,_=>by simp
 | c::l,s,cs,h=>by
  have h':off+s<cs.length:=by simp at h;omega
  simp only[List.zipIdx_cons,List.foldl_cons];have e:cs.toArray.setIfInBounds (off+s) c=(cs.set (off+s) c).toArray:=by simp
  rw[e,qSG off l (s+1) _ (by simp at h ⊢;omega)]
  congr 1
  have e1:(cs.set (off+s) c).take (off+(s+1))=cs.take (off+s)++[c]:=by
   rw[<- Nat.add_assoc,List.take_add_one]
   congr 1
   ·rw[List.take_set_of_le (Nat.le_refl _)]
   ·simp[h']
  have e2:(cs.set (off+s) c).drop (off+(s+1)+l.length)=cs.drop (off+s+(c::l).length):=by
   rw[List.drop_set_of_lt (by omega)]
   congr 1
   simp;omega
  rw[e1,e2]
  simp
theorem zHK{place:Nat->Option (Nat×Nat)}{i off size:Nat}{v:Value}{vs:List Value}{cs:List Value}{rest:List (Nat×Value)}(hp:place i=some (off,size))(hv:v.cells.toList=vs)(hsz:vs.length=size)
  (hle:off+vs.length<=cs.length):Instr.fill place cs.toArray ((i,v)::rest)=Instr.fill place (cs.take off++vs++cs.drop (off+vs.length)).toArray rest:=by
 have h1:v.cells.size=vs.length:=by rw[<- hv,Array.length_toList]
 have hf:=qSG off vs 0 cs (by simpa using hle);simp only[Nat.add_zero] at hf
 conv=>lhs;unfold Instr.fill
 rw[hp];simp only;rw[if_neg (by simp[h1,hsz];omega)];rw[<- hf,<- hv,<- Array.foldl_toList,Array.toList_zipIdx]
theorem ySC(h:Mem P X w0 J st g w){place:Nat->Option (Nat×TypeId)}{place':Nat->Option (Nat×Nat)}
  (hpl:∀i off t ti,place i=some (off,t)->P.info? t=some ti->place' i=some (off,ti.size)) :
  ∀ {parts:List (Nat×SV)} {cs l:List SV},(∀p∈parts,p.2.ok X J)->oks X J cs->(∀v∈dens X J g cs,v.oneCell'=true)->yLG P st place cs parts=some l ->
   Instr.fill place' (dens X J g cs).toArray (parts.map fun p=>(p.1,p.2.den X J g))=some (dens X J g l).toArray/\oks X J l/\l.length=cs.length/\(∀v∈dens X J g l,v.oneCell'=true)
 | [],cs,l,_,hc,h1,hf=>by simp[yLG] at hf;subst hf;exact⟨by simp[Instr.fill],hc,rfl,h1⟩
 | (i,v)::parts,cs,l,hp,hc,h1,hf=>by
  simp only[yLG,Option.bind_eq_bind,Option.bind_eq_some_iff] at hf;obtain⟨⟨off,t⟩,hpi,fl,hfl,ti,hti,hf⟩:=hf;split at hf
  ·rename_i hlen;obtain⟨hd,hok,hone⟩:=zLD h (hp (i,v) (by simp)) hfl;have hnew:dens X J g (cs.take off++fl++cs.drop (off+fl.length))=(dens X J g cs).take off++dens X J g fl++(dens X J g cs).drop (off+(dens X J g fl).length):=by simp[zRA]
   have hstep:=zHK (place:=place') (rest:=parts.map fun p=>(p.1,p.2.den X J g)) (hpl i off t ti hpi hti) hd (by rw[yKA];exact hlen.1) (cs:=dens X J g cs) (by rw[yKA,yKA];exact hlen.2);obtain⟨i1,i2,i3,i4⟩:=ySC h hpl (parts:=parts) (fun p hpp=>hp p (List.mem_cons_of_mem _ hpp)) (cs:=cs.take off++fl++cs.drop (off+fl.length)) (by
    rw[yHA];intro u hu;simp only[List.mem_append] at hu;rcases hu with(hu|hu)|hu
    ·exact yHA.1 hc u (List.mem_of_mem_take hu)
    ·exact yHA.1 hok u hu
    ·exact yHA.1 hc u (List.mem_of_mem_drop hu)) (by
    intro u hu;rw[hnew] at hu;simp only[List.mem_append] at hu;rcases hu with(hu|hu)|hu
    ·exact h1 u (List.mem_of_mem_take hu)
    ·exact hone u hu
    ·exact h1 u (List.mem_of_mem_drop hu)) hf
   refine⟨?_,i2,?_,i4⟩
   ·simp only[List.map_cons];rw[hstep,<- hnew];exact i1
   ·rw[i3]
    simp
    omega
  ·cases hf
theorem qSE{s:TypeId}{f off:Nat}{t:TypeId}(h:qCD P s f=some (off,t)):∃fs fd i,P.underlying s=some (.struct fs)/\fs[f]? = some fd/\P.info? fd.type=some i/\i.size≠0/\fd.offset=off/\fd.type=t:=by
 unfold qCD at h;split at h
 ·rename_i fs hu;simp only[Option.bind_eq_bind,Option.bind_eq_some_iff] at h;obtain⟨fd,hfd,i,hi,h⟩:=h;split at h
  ·cases h
  ·rename_i hne;cases h;exact⟨fs,fd,i,hu,hfd,hi,hne,rfl,rfl⟩
 ·cases h
theorem qYB{s:TypeId}{f off:Nat}{t:TypeId}(h:qCD P s f=some (off,t))(b o:Nat)(w:World) :
  (Instr.fieldAt s (.pointer (some ⟨b,o,none⟩)) f).run P w = .ok (.pointer (some ⟨b,o+off,none⟩)) w:=by
 obtain⟨fs,fd,i,hu,hfd,hi,hne,h1,h2⟩:=qSE h;simp only[Instr.fieldAt,Sem.run_bind,run_underlying hu,Result.andThen_ok,hfd,Instr.sureAddr,Sem.run_pure,fieldPlace,xAA hi];rw[if_neg hne];simp[zWB,h1]
theorem zNG:∀(fs:List Go.Field) (hall:fs.all (fun f=>(P.info? f.type).isSome)=true) (w:World),
  (fs.mapM (fun f=>do pure (f.offset,<- sizeOf f.type):Go.Field->Sem (Nat×Nat))).run P w = .ok (fs.map fun f=>(f.offset,((P.info? f.type).map (·.size)).getD 0)) w
 | [],_,w=>by simp
 | f::fs,hall,w=>by
  simp only[List.all_cons,baZ] at hall;obtain⟨i,hi⟩:=Option.isSome_iff_exists.1 hall.1;have ih:=zNG fs hall.2 w;simp only[bind_pure_comp] at ih ⊢;simp[List.mapM_cons,xAA hi,ih,hi]
def yVA(P:Program)(X:Nat->List D->D)(w0:Base)(J:List D)(st:St)(g:Gh)(w:World)(a:Act)(o:Oper)(s:SV)(st':St):Prop :=
 ∀(K:Act->World->Prop) (Q:Exit->Act->World->Prop),
  (∀g' w',Ext st g st' g'->Mem P X w0 J st' g' w'->Env X J st' g' a->s.ok X J->K (a.put o.dst (s.den X J g')) w')->o.wp P a w K Q
theorem yVA.quiet(h:Mem P X w0 J st g w)(he:Env X J st g a){o:Oper}{s:SV}(hr:(execOp a.eval o).run P w = .ok (.value (s.den X J g)) w)(hs:s.ok X J):yVA P X w0 J st g w a o s st :=
 fun K Q hK=>xRB hr (hK g w (Ext.refl st g) h he hs)
theorem zZC{k:IntKind}{n:Int}(h:(Lit.int k n).wf=true):k.min<=n/\n<=k.max:=by
 simpa[Lit.wf] using h
theorem zJC{k:IntKind}{n:Int}(h:k.min<=n/\n<=k.max):(Lit.int k n).wf=true:=by
 simpa[Lit.wf] using h
theorem yAI{k:IntKind}{n:Int}(h:(Lit.int k n).wf=true)(m:Nat):(Lit.int k (n.fdiv (2 ^ m))).wf=true:=by
 have hb:=zZC h;apply zJC;have hp:(1:Int)<=2 ^ m:=by
  have:(0:Int)<2 ^ m:=Int.pow_pos (by omega)
  omega
 generalize hq:(2:Int) ^ m=q at hp;have h0:k.min<=0/\0<=k.max:=by cases k <;> simp[IntKind.min,IntKind.max,IntKind.signed,IntKind.bits]
 rw[Int.fdiv_eq_ediv_of_nonneg _ (by omega)];constructor
 ·by_cases hn:0<=n
  ·have:=Int.ediv_nonneg hn (show (0:Int)<=q by omega);omega
  ·have:n<=n / q:=by
    have h1:=Int.mul_ediv_add_emod n q;have h2:=Int.emod_nonneg n (show q≠0 by omega);have h3:=Int.emod_lt_of_pos n (show 0<q by omega)
    have:n / q<=0:=by
     have:=Int.ediv_lt_of_lt_mul (show 0<q by omega) (show n<1*q by omega)
     omega
    have h4:q*(n / q)<=1*(n / q):=Int.mul_le_mul_of_nonpos_right hp this;by_cases hlt:n<=n / q
    ·exact hlt
    ·exfalso;have h5:=Int.mul_ediv_self_le (x:=n) (k:=q) (by omega);have h6:q*(n / q)+q>n:=by omega
     have h7:n / q<n:=by omega
     have h8:n / q+1<=n:=by omega
     have h9:q*(n / q+1)<=1*(n / q+1):=by
      by_cases h10:n / q+1<=0
      ·exact Int.mul_le_mul_of_nonpos_right hp h10
      ·omega
     have h10:q*(n / q+1)=q*(n / q)+q:=by rw[Int.mul_add,Int.mul_one]
     omega
   omega
 ·by_cases hn:0<=n
  ·have:=Int.ediv_le_self q hn;omega
  ·have:=Int.ediv_lt_of_lt_mul (show 0<q by omega) (show n<1*q by omega)
   omega
theorem tmodLe(n m:Int)(h:0<=n):n.tmod m<=n:=by
 obtain⟨a,rfl⟩:=Int.eq_ofNat_of_zero_le h;have e:((a:Int).tmod m)=((a%m.natAbs:Nat):Int):=by
  cases m with
  | ofNat k=>rfl
  | negSucc k=>rfl
 rw[e]
 have:=Nat.mod_le a m.natAbs
 omega
theorem zNL{k:IntKind}{n m:Int}(h:(Lit.int k n).wf=true)(h0:m≠0):(Lit.int k (n.tmod m)).wf=true:=by
 have hb:=zZC h;apply zJC;have h1:k.min<=0/\0<=k.max:=by cases k <;> simp[IntKind.min,IntKind.max,IntKind.signed,IntKind.bits]
 by_cases hn:0<=n
 ·have:=Int.tmod_nonneg m hn
  have h2:=tmodLe n m hn;omega
 ·have h2:(n.tmod m) = -((-n).tmod m):=by rw[Int.neg_tmod,Int.neg_neg]
  have h3:=Int.tmod_nonneg m (show 0 <= -n by omega);have h4:=tmodLe (-n) m (by omega);omega
end
end Go.Dx
namespace Go.Dx
open Go
section
variable {P:Program} {X:Nat->List D->D} {w0:Base} {J:List D} {st:St} {g:Gh} {w:World} {a:Act}
theorem zLC{k:IntKind}{e:DE}{n:Int}(h:e.eval X J = .int n)(hw:(Lit.int k n).wf=true):(SV.i k e).ok X J:=⟨n,h,hw⟩
theorem xPC{e:DE}{b:Bool}(h:e.eval X J = .bool b):(SV.b e).ok X J:=⟨b,h⟩
theorem binS_int(k:IntKind)(e1 e2:DE)(n m:Int)(h1:e1.eval X J = .int n)(h2:e2.eval X J = .int m)(hn:(Lit.int k n).wf=true)(op:BinOp)(t:TypeId)(s:SV)
  (hs:binS P st t op (.i k e1) (.i k e2)=some s):(binOp op t (.int k n) (.int k m)).run P w = .ok (s.den X J g) w/\s.ok X J:=by
 cases op <;> simp only[binS,if_true,reduceCtorEq] at hs
 case add=>cases hs;exact⟨by simp[binOp,Op.intArith,SV.den,zEA,zDA,Fn.eval,h1,h2,D.asInt],zLC (by rw[zEA];rfl) (zCC _ _)⟩
 case sub=>cases hs;exact⟨by simp[binOp,Op.intArith,SV.den,zEA,zDA,Fn.eval,h1,h2,D.asInt],zLC (by rw[zEA];rfl) (zCC _ _)⟩
 case mul=>cases hs;exact⟨by simp[binOp,Op.intArith,SV.den,zEA,zDA,Fn.eval,h1,h2,D.asInt],zLC (by rw[zEA];rfl) (zCC _ _)⟩
 case and=>cases hs;exact⟨by simp[binOp,Op.intBits,SV.den,zEA,zDA,Fn.eval,h1,h2,D.asInt],zLC (by rw[zEA];rfl) (zCC _ _)⟩
 case or=>cases hs;exact⟨by simp[binOp,Op.intBits,SV.den,zEA,zDA,Fn.eval,h1,h2,D.asInt],zLC (by rw[zEA];rfl) (zCC _ _)⟩
 case xor=>cases hs;exact⟨by simp[binOp,Op.intBits,SV.den,zEA,zDA,Fn.eval,h1,h2,D.asInt],zLC (by rw[zEA];rfl) (zCC _ _)⟩
 case eql=>cases hs;exact⟨by simp[binOp,Op.intCmp,SV.den,zEA,zDA,Fn.eval,h1,h2,D.asInt,D.asBool],xPC (by rw[zEA];rfl)⟩
 case neq=>cases hs;exact⟨by simp[binOp,Op.intCmp,SV.den,zEA,zDA,Fn.eval,h1,h2,D.asInt,D.asBool],xPC (by rw[zEA];rfl)⟩
 case lss=>cases hs;exact⟨by simp[binOp,Op.intCmp,SV.den,zEA,zDA,Fn.eval,h1,h2,D.asInt,D.asBool];exact decide_eq_decide.2 Iff.rfl,xPC (by rw[zEA];rfl)⟩
 case leq=>cases hs;exact⟨by simp[binOp,Op.intCmp,SV.den,zEA,zDA,Fn.eval,h1,h2,D.asInt,D.asBool];exact decide_eq_decide.2 Iff.rfl,xPC (by rw[zEA];rfl)⟩
 case gtr=>cases hs;exact⟨by simp[binOp,Op.intCmp,SV.den,zEA,zDA,Fn.eval,h1,h2,D.asInt,D.asBool];exact decide_eq_decide.2 Iff.rfl,xPC (by rw[zEA];rfl)⟩
 case geq=>cases hs;exact⟨by simp[binOp,Op.intCmp,SV.den,zEA,zDA,Fn.eval,h1,h2,D.asInt,D.asBool];exact decide_eq_decide.2 Iff.rfl,xPC (by rw[zEA];rfl)⟩
 case quo =>
  split at hs
  ·rename_i c;split at hs
   ·cases hs
   ·rename_i hc;cases hs
    simp only[DE.eval,D.int.injEq] at h2;subst h2
    exact⟨by simp[binOp,Op.intDiv,hc,SV.den,zEA,zDA,Fn.eval,h1,DE.eval,D.asInt],zLC (by rw[zEA];rfl) (zCC _ _)⟩
  ·cases hs
 case rem =>
  split at hs
  ·rename_i c;split at hs
   ·cases hs
   ·rename_i hc;cases hs
    simp only[DE.eval,D.int.injEq] at h2;subst h2
    refine⟨by simp[binOp,Op.intDiv,hc,SV.den,zEA,zDA,Fn.eval,h1,DE.eval,D.asInt],zLC (by rw[zEA];rfl) ?_⟩;simp only[zDA,h1,DE.eval,D.asInt];exact zNL hn hc
  ·cases hs
 case shl =>
  split at hs
  ·rename_i c;split at hs
   ·rename_i hc;cases hs
    simp only[DE.eval,D.int.injEq] at h2;subst h2
    have hc':¬c<0:=by omega
    exact⟨by simp[binOp,Op.shift,hc',SV.den,zEA,zDA,Fn.eval,h1,DE.eval,D.asInt,shlI],zLC (by rw[zEA];rfl) (zCC _ _)⟩
   ·cases hs
  ·cases hs
 case shr =>
  split at hs
  ·rename_i c;split at hs
   ·rename_i hc;cases hs
    simp only[DE.eval,D.int.injEq] at h2;subst h2
    have hc':¬c<0:=by omega
    refine⟨by simp[binOp,Op.shift,hc',SV.den,zEA,zDA,Fn.eval,h1,DE.eval,D.asInt,shrI],zLC (by rw[zEA];rfl) ?_⟩;simp only[zDA,h1,DE.eval,D.asInt,shrI];exact yAI hn _
   ·cases hs
  ·cases hs
theorem zLJ(k k':IntKind)(hk:k≠k')(e1 e2:DE)(n m:Int)(h1:e1.eval X J = .int n)(h2:e2.eval X J = .int m)(hn:(Lit.int k n).wf=true)(op:BinOp)(t:TypeId)(s:SV)
  (hs:binS P st t op (.i k e1) (.i k' e2)=some s):(binOp op t (.int k n) (.int k' m)).run P w = .ok (s.den X J g) w/\s.ok X J:=by
 cases op <;> simp only[binS,hk,if_false,reduceCtorEq] at hs
 case shl =>
  split at hs
  ·rename_i c;split at hs
   ·rename_i hc;cases hs
    simp only[DE.eval,D.int.injEq] at h2;subst h2
    have hc':¬c<0:=by omega
    exact⟨by simp[binOp,Op.shift,hc',SV.den,zEA,zDA,Fn.eval,h1,DE.eval,D.asInt,shlI],zLC (by rw[zEA];rfl) (zCC _ _)⟩
   ·cases hs
  ·cases hs
 case shr =>
  split at hs
  ·rename_i c;split at hs
   ·rename_i hc;cases hs
    simp only[DE.eval,D.int.injEq] at h2;subst h2
    have hc':¬c<0:=by omega
    refine⟨by simp[binOp,Op.shift,hc',SV.den,zEA,zDA,Fn.eval,h1,DE.eval,D.asInt,shrI],zLC (by rw[zEA];rfl) ?_⟩;simp only[zDA,h1,DE.eval,D.asInt,shrI];exact yAI hn _
   ·cases hs
  ·cases hs
theorem xIB{op:BinOp}{t:TypeId}{x y:Operand}{u v:Value}(hu:u.oneCell'=true)(hi:u ≠ .nilIface)(w:World):(eqGuard op t x y u v).run P w = .ok () w:=by
 cases op <;> first|rfl|(cases u <;> first|rfl|(exact absurd rfl hi)|(simp[Value.oneCell'] at hu))
theorem yCE(d:Nat){t e:TypeId}(hu:P.underlying t=some (.slice e))(a:Option Addr)(n c:Nat)(w:World) :
  (Op.equalIn (d+1) t (.slice a n c) (.slice none 0 0)).run P w = .ok a.isNone w:=by
 unfold Op.equalIn;simp only[Sem.run_bind,run_underlying hu,Result.andThen_ok];cases a <;> rfl
theorem yMF(d:Nat){t e:TypeId}(hu:P.underlying t=some (.pointer e))(a:Option Addr)(w:World) :
  (Op.equalIn (d+1) t (.pointer a) (.pointer none)).run P w = .ok a.isNone w:=by
 unfold Op.equalIn;simp only[Sem.run_bind,run_underlying hu,Result.andThen_ok];cases a <;> rfl
theorem yLF(d:Nat){t k e:TypeId}(hu:P.underlying t=some (.map k e))(a:Option Nat)(w:World) :
  (Op.equalIn (d+1) t (.map a) (.map none)).run P w = .ok a.isNone w:=by
 unfold Op.equalIn;simp only[Sem.run_bind,run_underlying hu,Result.andThen_ok];cases a <;> rfl
theorem qKC{α:Type}{a:Option α}{d:D}(ha:a=none↔d.isNil=true):a.isNone=d.isNil:=by
 cases a <;> cases h:d.isNil <;> simp_all
theorem zZH{t:TypeId}{kd:Kd}(hk:kdT P t=some kd){v:Value}{d:D}(hsh:Shape kd v d)(c:CV)(hc:cvKd c=some kd)(w:World) :
  (binOp .eql t v c.den).run P w = .ok (.bool d.isNil) w/\(binOp .neq t v c.den).run P w = .ok (.bool (!d.isNil)) w:=by
 have key:∀(v u:Value) (b:Bool),(Op.equal t v u).run P w = .ok b w->binOp .eql t v u=(do pure (.bool (<- Op.equal t v u)))->binOp .neq t v u=(do pure (.bool (!(<- Op.equal t v u)))) ->
   (binOp .eql t v u).run P w = .ok (.bool b) w/\(binOp .neq t v u).run P w = .ok (.bool (!b)) w:=by
  intro v u b h1 h2 h3;rw[h2,h3];constructor
  ·rw[Sem.run_bind,h1];rfl
  ·rw[Sem.run_bind,h1];rfl
 unfold kdT at hk;cases hu:P.underlying t with
 | none=>rw[hu] at hk;simp at hk
 | some td =>
  rw[hu] at hk;cases hsh with
  | slice hn ha hm h0 =>
   cases td <;> simp[kdOf] at hk
   cases c <;> simp[cvKd] at hc
   rw[<- qKC ha];exact key _ _ _ (yCE 9999 hu _ _ _ w) rfl rfl
  | ptr ha =>
   cases td <;> simp[kdOf] at hk
   cases c <;> simp[cvKd] at hc
   rw[<- qKC ha];exact key _ _ _ (yMF 9999 hu _ w) rfl rfl
  | map ha hl =>
   cases td <;> simp[kdOf] at hk
   cases c <;> simp[cvKd] at hc
   rw[<- qKC ha];exact key _ _ _ (yLF 9999 hu _ w) rfl rfl
  | str hn hm =>
   cases c <;> simp[cvKd] at hc
theorem binS_nil(h:Mem P X w0 J st g w){t:TypeId}{op:BinOp}{x s:SV}{c:CV}(hx:x.ok X J)(hs:binS P st t op x (.c c)=some s) :
  (binOp op t (x.den X J g) c.den).run P w = .ok (s.den X J g) w/\s.ok X J/\(x.den X J g).oneCell'=true/\x.den X J g ≠ .nilIface:=by
 have hs':∃kd,cvKd c=some kd/\kdT P t=some kd /\
   (((∃o off,x = .oa o off)/\kd = .pt/\((op = .eql/\s = .b (.k (.bool false)))∨(op = .neq/\s = .b (.k (.bool true))))) ∨
    (∃d,yNE P st x=some (kd,d)/\((op = .eql/\s = .b (mkf .isNil [d]))∨(op = .neq/\s = .b (mkf .not [mkf .isNil [d]]))))):=by
  have hs2:nilS P st t op x c=some s:=by
   rw[<- hs];cases x <;> rfl
  unfold nilS at hs2;split at hs2
  ·cases hs2
  ·rename_i kd hkd;refine⟨kd,hkd,?_⟩;split at hs2
   ·rename_i hkt;refine⟨hkt,?_⟩;split at hs2
    ·left;split at hs2
     ·rename_i hp;refine⟨⟨_,_,rfl⟩,hp,?_⟩;cases op <;> simp only[reduceCtorEq,Option.some.injEq] at hs2
      ·left;exact⟨rfl,hs2.symm⟩
      ·right;exact⟨rfl,hs2.symm⟩
     ·cases hs2
    ·right;split at hs2
     ·rename_i kd' d hd;split at hs2
      ·rename_i hkk;subst hkk;refine⟨d,hd,?_⟩;cases op <;> simp only[reduceCtorEq,Option.some.injEq] at hs2
       ·left;exact⟨rfl,hs2.symm⟩
       ·right;exact⟨rfl,hs2.symm⟩
      ·cases hs2
     ·cases hs2
   ·cases hs2
 obtain⟨kd,hc,hkt,hh⟩:=hs';rcases hh with⟨⟨o,off,rfl⟩,rfl,hop⟩|⟨d,hd,hop⟩
 ·have hsh:Shape .pt ((SV.oa o off).den X J g) (.ptr .nil):=.ptr (by simp[D.isNil]);obtain⟨r1,r2⟩:=zZH hkt hsh c hc w;rcases hop with⟨rfl,rfl⟩|⟨rfl,rfl⟩
  ·exact⟨by rw[r1];rfl,xPC rfl,rfl,by simp[SV.den]⟩
  ·exact⟨by rw[r2];rfl,xPC rfl,rfl,by simp[SV.den]⟩
 ·have hsh:=qDC h hx hd;obtain⟨r1,r2⟩:=zZH hkt hsh c hc w;have hne:x.den X J g ≠ .nilIface:=by
   generalize x.den X J g=v at hsh;generalize d.eval X J=dd at hsh;cases hsh <;> simp
  rcases hop with⟨rfl,rfl⟩|⟨rfl,rfl⟩
  ·exact⟨by rw[r1];simp[SV.den,zEA,zDA,Fn.eval,D.asBool],xPC (by rw[zEA];rfl),hsh.one.1,hne⟩
  ·exact⟨by rw[r2];simp[SV.den,zEA,zDA,Fn.eval,D.asBool],xPC (by rw[zEA];rfl),hsh.one.1,hne⟩
theorem eqBool{t:TypeId}(hu:P.underlying t=some .bool)(a b:Bool)(w:World):(binOp .eql t (.bool a) (.bool b)).run P w = .ok (.bool (a==b)) w/\(binOp .neq t (.bool a) (.bool b)).run P w = .ok (.bool (!(a==b))) w:=by
 have h1:(Op.equal t (.bool a) (.bool b)).run P w = .ok (a==b) w:=by
  show (Op.equalIn (9999+1) t (.bool a) (.bool b)).run P w=_;unfold Op.equalIn;simp only[Sem.run_bind,run_underlying hu,Result.andThen_ok,Sem.run_pure]
 constructor
 ·show (do pure (Value.bool (<- Op.equal t (.bool a) (.bool b))):Sem Value).run P w=_;rw[Sem.run_bind,h1];rfl
 ·show (do pure (Value.bool (!(<- Op.equal t (.bool a) (.bool b)))):Sem Value).run P w=_;rw[Sem.run_bind,h1];rfl
theorem zMJ(h:Mem P X w0 J st g w){t:TypeId}{op:BinOp}{x y s:SV}(hx:x.ok X J)(hy:y.ok X J)(hs:binS P st t op x y=some s) :
  (binOp op t (x.den X J g) (y.den X J g)).run P w = .ok (s.den X J g) w/\s.ok X J/\(x.den X J g).oneCell'=true/\x.den X J g ≠ .nilIface:=by
 cases y with
 | c c=>exact binS_nil h hx hs
 | i k' e2 =>
  cases x with
  | i k e1 =>
   obtain⟨n,h1,hn⟩:=hx;obtain⟨m,h2,hm⟩:=hy;by_cases hk:k=k'
   ·subst hk
    have:=binS_int (g:=g) (w:=w) k e1 e2 n m h1 h2 hn op t s hs
    refine⟨?_,this.2,rfl,by simp[SV.den]⟩;simp only[SV.den,h1,h2,D.asInt];exact this.1
   ·have:=zLJ (g:=g) (w:=w) k k' hk e1 e2 n m h1 h2 hn op t s hs
    refine⟨?_,this.2,rfl,by simp[SV.den]⟩;simp only[SV.den,h1,h2,D.asInt];exact this.1
  | _=>simp[binS] at hs
 | s e2 =>
  cases x with
  | s e1 =>
   obtain⟨n,h1,hn⟩:=hx;obtain⟨m,h2,hm⟩:=hy;cases op <;> simp only[binS,reduceCtorEq] at hs
   case eql =>
    cases hs;exact⟨by simp[binOp,Op.stringOp,SV.den,zEA,zDA,Fn.eval,h1,h2,D.asStr,D.asBool],xPC (by rw[zEA];rfl),rfl,by simp[SV.den]⟩
   case neq =>
    cases hs;exact⟨by simp[binOp,Op.stringOp,SV.den,zEA,zDA,Fn.eval,h1,h2,D.asStr,D.asBool],xPC (by rw[zEA];rfl),rfl,by simp[SV.den]⟩
  | _=>simp[binS] at hs
 | b e2 =>
  cases x with
  | b e1 =>
   obtain⟨n,h1⟩:=hx;obtain⟨m,h2⟩:=hy;simp only[binS] at hs;split at hs
   ·rename_i hu;cases hs;refine⟨?_,⟨(n==m),?_⟩,rfl,by simp[SV.den]⟩
    ·simp only[SV.den,zEA,zDA,Fn.eval,h1,h2,D.asBool];rw[(eqBool hu n m w).1];cases n <;> cases m <;> rfl
    ·simp only[zEA,zDA,Fn.eval,h1,h2,D.asBool];cases n <;> cases m <;> rfl
   ·rename_i hu;cases hs;refine⟨?_,⟨(n != m),?_⟩,rfl,by simp[SV.den]⟩
    ·simp only[SV.den,zEA,zDA,Fn.eval,h1,h2,D.asBool];rw[(eqBool hu n m w).2];cases n <;> cases m <;> rfl
    ·simp only[zEA,zDA,Fn.eval,h1,h2,D.asBool];cases n <;> cases m <;> rfl
   ·cases hs
  | _=>simp[binS] at hs
 | _=>cases x <;> simp[binS] at hs
end
end Go.Dx
namespace Go.Dx
open Go
section
variable {P:Program} {X:Nat->List D->D} {w0:Base} {J:List D} {st:St} {g:Gh} {w:World} {a:Act}
inductive BytesAt (w:World):Value->D->Prop where
 | nil:BytesAt w (.slice none 0 0) .nil
 | some {ad:Addr} {cap} {s:List UInt8} (hs:0<cap->ad.spot=none) (hc:xQA w ad.block ad.off (s.map fun x=>.int .u8 x.toNat)) (h1:s.length<=cap) (h2:cap<=maxLen):BytesAt w (.slice (some ad) s.length cap) (.bytes s)
theorem yBD{ad:Addr}(h:ad.spot=none)(j:Nat):ad.add j=⟨ad.block,ad.off+j,none⟩:=by
 obtain⟨b,o,s⟩:=ad;simp only at h;subst h;exact zWB b o j
theorem at_eq{ad:Addr}(h:ad.spot=none):ad=⟨ad.block,ad.off,none⟩:=by
 obtain⟨b,o,s⟩:=ad;simp only at h;subst h;rfl
theorem Rep.bytesAt{ok:Nat->Prop}{t e:TypeId}{v:Value}{d:D}(h:Rep P ok w t v d)(hu:P.underlying t=some (.slice e))(he:P.underlying e=some (.int .u8)):BytesAt w v d:=by
 cases h with
 | snil=>exact .nil
 | bytes hu' he' hok hcap hmax hc=>exact .some (fun h=>(hok h).1) hc hcap hmax
 | list hu' he'=>rw[hu] at hu';cases hu';exact absurd he he'
 | int hu'=>rw[hu] at hu';cases hu'
 | bool hu'=>rw[hu] at hu';cases hu'
 | str hu'=>rw[hu] at hu';cases hu'
 | flt hu'=>rw[hu] at hu';cases hu'
 | row hu' hd=>rw[hu] at hu';cases hu';simp[zGA] at hd
 | pnil hu'=>rw[hu] at hu';cases hu'
 | ptr hu'=>rw[hu] at hu';cases hu'
 | mnil hu'=>rw[hu] at hu';cases hu'
 | map hu'=>rw[hu] at hu';cases hu'
theorem yRA.bytesAt{ok:Nat->Prop}{t e:TypeId}{v:Value}{d:D}(h:yRA P ok w t v d)(hu:P.underlying t=some (.slice e))(he:P.underlying e=some (.int .u8)):BytesAt w v d:=by
 obtain⟨e',i,n,xs,hu',hi,hown,hd⟩:=h;rw[hu] at hu';cases hu'
 cases hd with
 | nil hv=>subst hv;exact .nil
 | bytes hv he' hs =>
  rename_i s;rcases hown.2 with⟨rfl,_⟩|⟨b,cap,cur,rfl,hb,hh,hn,hm,hsz,htake⟩
  ·simp[Value.ownBlock] at hv
  ·refine .some (fun _=>rfl) ?_ hn hm;intro j u hj
   have:=hown.cells (g:=b) rfl j u hj
   rwa [zWB] at this
 | list hv he'=>exact absurd he he'
theorem yCG(h:Mem P X w0 J st g w){t e:TypeId}{x:SV}{d:DE}(hx:x.ok X J)(hb:xPH P st t x=some d)(hu:P.underlying t=some (.slice e))(he:P.underlying e=some (.int .u8)) :
  BytesAt w (x.den X J g) (d.eval X J):=by
 unfold xPH at hb;split at hb
 ·rename_i d' hd;cases hb
  exact(yYA h hx hd).bytesAt hu he
 ·split at hb
  ·rename_i n;split at hb
   ·rename_i u de hn;split at hb
    ·rename_i hut;subst hut;cases hb
     exact yRA.bytesAt (h.va _ _ hn) hu he
    ·cases hb
   ·cases hb
  ·cases hb
theorem qLF:∀(s:List UInt8) (acc:ByteArray),(s.map fun x=>(x.toNat:Int)).foldl (fun r n=>r.push (UInt8.ofNat n.toNat)) acc=⟨acc.data++s.toArray⟩
 | [],acc=>by simp
 | x::s,acc=>by
  simp only[List.map_cons,List.foldl_cons];rw[qLF s];simp[ByteArray.push]
theorem qAK{v:Value}{d:D}(h:BytesAt w v d):(Conv.bytesToString v).run P w = .ok (.string ⟨d.asStr.toArray⟩) w:=by
 cases h with
 | nil=>rfl
 | some hs hc h1 h2 =>
  rename_i ad cap s;have hrun:(loadCells ad s.length).run P w = .ok ((s.map fun x=>(x.toNat:Int)).map (Value.int .u8)).toArray w:=by
   have:=run_loadCells_list (P:=P) w ad (s.map fun x=>Value.int .u8 x.toNat) (fun j v hj=>by
    have h0:=(List.getElem?_eq_some_iff.1 hj).1;rw[List.length_map] at h0;rw[yBD (hs (by omega))];exact hc j v hj)
   simpa[Function.comp_def] using this
  rw[run_bytesToString w _ _ _ _ hrun,qLF];simp[D.asStr]
theorem xJC(h:Mem P X w0 J st g w)(he:Env X J st g a){w':World}(hf:Fr (fun _=>False) w w'){n:Nat}{t:TypeId}{de:DE}{v:Value}{st':St}(hn:newV st ⟨.set t,de⟩ n=some st')
  (hv:∀ok':Nat->Prop,(∀b,okOf st g w b->ok' b)->(∀b,w.heap.size<=b->b<w'.heap.size->ok' b)->Rep P ok' w' t v (de.eval X J)) :
  Mem P X w0 J st' (g.setV n v (0,0)) w'/\Env X J st' (g.setV n v (0,0)) a/\Ext st g st' (g.setV n v (0,0))/\(SV.x n).den X J (g.setV n v (0,0))=v/\st'.obl=st.obl:=by
 unfold newV at hn;split at hn
 ·rename_i hc;cases hn;refine⟨h.change hf (fun b _ e=>e.elim) st rfl (fun l hl=>hl) (fun o cs ho=>⟨ho,fun e=>e⟩) (fun m vi hm=>.inr ⟨hm,fun b _ e=>e⟩) n ⟨.set t,de⟩ v (0,0) hc (by simp[zFA])
   (fun ok' h1 h2=>hv ok' h1 (fun b hb1 hb2=>h2 b hb1 hb2 (by simp[zFA]))),(he.setV hc v (0,0)).of_env rfl rfl,Ext.setV (qNA hc) v (0,0) (fun m vi hm=>xVB m vi hm) (fun o cs ho=>⟨cs,ho⟩),by simp[SV.den,Gh.setV],rfl⟩
 ·cases hn
structure Drops (st st1:St) (M:Nat->Prop) (g:Gh):Prop where
 env:st1.env=st.env
 lvl:st1.lvl=st.lvl
 nt:st1.nt=st.nt
 lps:st1.loops=st.loops
 objs:∀o cs,lk o st1.objs=some cs->lk o st.objs=some cs /\ ¬M (g.rb o)
 vars:∀n vi,lk n st1.vars=some vi->vi.vt = .dead∨(lk n st.vars=some vi /\ ∀b,zFA vi.vt (g.rv n)=some b -> ¬M b)
 keysV:∀n vi,lk n st.vars=some vi -> ∃vi',lk n st1.vars=some vi'
 keysO:∀o cs,lk o st.objs=some cs -> ∃cs',lk o st1.objs=some cs'
theorem Drops.same(st:St)(g:Gh):Drops st st (fun _=>False) g :=
 ⟨rfl,rfl,rfl,rfl,fun o cs h=>⟨h,fun e=>e⟩,fun n vi h=>.inr ⟨h,fun b _ e=>e⟩,fun n vi h=>⟨vi,h⟩,fun o cs h=>⟨cs,h⟩⟩
theorem Drops.kill(h:Mem P X w0 J st g w){n:Nat}{vi:VI}(hn:lk n st.vars=some vi)(de:DE)(obl:List Ob):Drops st { st with vars:=upd n ⟨.dead,de⟩ st.vars,obl:=obl } (fun b=>zFA vi.vt (g.rv n)=some b) g :=
 ⟨rfl,rfl,rfl,rfl,fun o cs ho=>⟨ho,fun e=>h.ov o n cs vi ho hn e⟩,fun m vj hm=>by
  by_cases hmn:n=m
  ·subst hmn;rw[zZA] at hm;cases hm;exact .inl rfl
  ·rw[yJA hmn] at hm;exact .inr ⟨hm,fun b hb hb'=>hmn (h.vv n m vi vj b hn hm hb' hb)⟩,fun m vj hm=>qOA m vj hm,fun o cs ho=>⟨cs,ho⟩⟩
theorem qOB(h:Mem P X w0 J st g w)(he:Env X J st g a){M:Nat->Prop}{w':World}(hf:Fr M w w')(hM:∀b,b<w.heap.size->M b->Actv st g b){st1 st':St}(hd:Drops st st1 M g)
  {n:Nat} {vi:VI} {v:Value} (hn:newV st1 vi n=some st')
  (hblk:∀b,zFA vi.vt v=some b->(w.heap.size<=b∨M b)/\b<w'.heap.size)
  (hv:∀ok':Nat->Prop,(∀b,okOf st g w b->ok' b)->(∀b,w.heap.size<=b->b<w'.heap.size->zFA vi.vt v≠some b->ok' b)->qUA P ok' w' vi.vt v (0,0) (vi.de.eval X J)) :
  Mem P X w0 J st' (g.setV n v (0,0)) w'/\Env X J st' (g.setV n v (0,0)) a/\Ext st g st' (g.setV n v (0,0))/\(SV.x n).den X J (g.setV n v (0,0))=v/\st'.obl=st1.obl:=by
 unfold newV at hn;split at hn
 ·rename_i hc;cases hn;have he1:Env X J st1 g a:=he.of_env hd.env hd.nt;have hnone:lk n st.vars=none:=by
   cases hx:lk n st.vars with
   | none=>rfl
   | some vi =>
    obtain⟨vi',h1⟩:=hd.keysV n vi hx;rw[qNA hc] at h1;cases h1
  refine⟨h.change hf hM st1 hd.lvl (fun l hl=>hd.lps▸hl) hd.objs hd.vars n vi v (0,0) hc (fun b hb=>?_) hv,(he1.setV hc v (0,0)).of_env rfl rfl,
   Ext.setV hnone v (0,0) (fun m vj hm=>?_) hd.keysO,by simp[SV.den,Gh.setV],rfl⟩
  ·obtain⟨h1,h2⟩:=hblk b hb;refine⟨h1,?_,h2⟩;rcases h1 with h1|h1
   ·exact .inl (Nat.le_trans h.fr.size h1)
   ·by_cases hlt:b<w.heap.size
    ·exact h.lo b (hM b hlt h1)
    ·exact .inl (Nat.le_trans h.fr.size (Nat.le_of_not_lt hlt))
  ·obtain⟨vj',h1⟩:=hd.keysV m vj hm;exact xVB m vj' h1
 ·cases hn
theorem qEH(w:World)(b:Nat)(o n:Nat)(cs:Array Value)(t:TypeId)(fr:Nat×Nat)(hg:w.heap[b]? = some (.cells cs t fr)):∃fr',(w.freeze ⟨b,o,none⟩ n).heap[b]? = some (.cells cs t fr'):=by
 unfold World.freeze;split
 ·exact⟨fr,hg⟩
 ·have hlt:b<w.heap.size:=(Array.getElem?_eq_some_iff.1 hg).1;have hv:w.heap[b] = .cells cs t fr:=(Array.getElem?_eq_some_iff.1 hg).2;simp only;rw[Array.getElem?_eq_getElem (by simpa using hlt),Array.getElem_modify];simp[hv]
theorem qUG(w:World)(b k:Nat)(o n:Nat)(h:k≠b):(w.freeze ⟨b,o,none⟩ n).heap[k]? = w.heap[k]?:=by
 unfold World.freeze;split
 ·rfl
 ·simp[Array.getElem?_modify,Ne.symm h]
theorem qWE(w:World)(a:Addr)(n:Nat):(w.freeze a n).heap.size=w.heap.size:=by
 unfold World.freeze;split <;> simp
theorem zNI{e:TypeId}(s:ByteArray)(hm:s.size<=maxLen)(w:World):∃cap w',(Conv.stringToBytes e s).run P w = .ok (.slice (some ⟨w.heap.size,0,none⟩) s.size cap) w'/\Fr (fun _=>False) w w'/\w.heap.size<w'.heap.size/\s.size<=cap/\cap<=maxLen /\
  xQA w' w.heap.size 0 (s.data.toList.map fun x=>Value.int .u8 x.toNat):=by
 have hcap:=grownCap_ge w s.size 0 e;have hmax:=grownCap_le_maxLen w s.size 0 e hm;generalize hc:grownCap w s.size 0 e=cap at hcap hmax
 let cells:Array Value:=(s.data.map fun b=>Value.int .u8 b.toNat)++Array.replicate (cap-s.size) (.int .u8 0)
 let w1:=w.drew.alloc (.cells cells e)
 have hg:w1.heap[w.heap.size]? = some (.cells cells e (0,0)):=heap_alloc_new w.drew _;obtain⟨fr',hg'⟩:=qEH w1 w.heap.size cells.size 1 cells e (0,0) hg;refine⟨cap,w1.freeze ⟨w.heap.size,cells.size,none⟩ 1,?_,⟨?_,?_,?_,?_,?_⟩,?_,hcap,hmax,?_⟩
 ·have hsh:w1.shape? w.heap.size=some (e,cells.size):=by simp[World.shape?,hg]
  simp only[Conv.stringToBytes,Sem.run_bind,run_choose,Question.forced,bfZ,if_false,Result.andThen_ok,World.drew_eq];have hcut:(Question.appendCap s.size 0 e).cut (w.tape w.drawn (Question.appendCap s.size 0 e))=cap:=hc;rw[hcut];simp only[qNB,Result.andThen_ok,markStringish,Sem.run_bind,run_shape];have hsh':(w.drew.alloc (.cells cells e)).shape? w.drew.heap.size=some (e,cells.size):=hsh;rw[hsh']
  simp
  rfl
 ·unfold World.freeze;split <;> rfl
 ·unfold World.freeze;split <;> rfl
 ·unfold World.freeze;split <;> rfl
 ·rw[qWE];simp[w1]
 ·intro k hk _;rw[qUG _ _ _ _ _ (by omega)];exact Go.RowKit.Below.heap_alloc w.drew _ k hk
 ·rw[qWE];simp[w1]
 ·intro j v hj;rw[Nat.zero_add,cell_of_row _ _ j _ _ _ hg'];have hj':j<s.data.size:=by
   have:=(List.getElem?_eq_some_iff.1 hj).1
   simpa using this
  simp only[cells];rw[Array.getElem?_append_left (by simpa using hj')];simpa using hj
end
end Go.Dx
namespace Go.Dx
open Go
theorem yNG{size:Nat}:∀ {vs:List Value},(∀v∈vs,v.cells.size=size) -> ∀(j:Nat) (v:Value) (k:Nat) (u:Value),vs[j]? = some v->v.cells.toList[k]? = some u->(vs.flatMap fun u=>u.cells.toList)[j*size+k]? = some u
 | [],_,j,v,k,u,hj,_=>by simp at hj
 | x::vs,hsz,j,v,k,u,hj,hk=>by
  have hx:x.cells.toList.length=size:=by rw[Array.length_toList];exact hsz x (by simp)
  cases j with
  | zero =>
   simp at hj;subst hj
   have hlt:=(List.getElem?_eq_some_iff.1 hk).1;simp only[List.flatMap_cons,Nat.zero_mul,Nat.zero_add];rw[List.getElem?_append_left hlt];exact hk
  | succ j =>
   simp at hj;have ih:=yNG (vs:=vs) (fun v hv=>hsz v (List.mem_cons_of_mem _ hv)) j v k u hj hk;simp only[List.flatMap_cons];rw[List.getElem?_append_right (by rw[hx,Nat.add_mul];omega),hx];rw[show (j+1)*size+k-size=j*size+k by rw[Nat.add_mul];omega];exact ih
theorem xPE{size:Nat}:∀ {vs:List Value},(∀v∈vs,v.cells.size=size)->(vs.flatMap fun u=>u.cells.toList).length=vs.length*size
 | [],_=>by simp
 | x::vs,hsz=>by
  have hx:x.cells.toList.length=size:=by rw[Array.length_toList];exact hsz x (by simp)
  simp only[List.flatMap_cons,List.length_append,List.length_cons];rw[xPE (vs:=vs) (fun v hv=>hsz v (List.mem_cons_of_mem _ hv)),hx,Nat.add_mul];omega
theorem xAI{size:Nat}:∀ {vs:List Value},(∀v∈vs,v.cells.size=size) -> ∀(m:Nat) (u:Value),(vs.flatMap fun u=>u.cells.toList)[m]? = some u -> ∃j k v,m=j*size+k/\vs[j]? = some v/\v.cells.toList[k]? = some u
 | [],_,m,u,h=>by simp at h
 | x::vs,hsz,m,u,h=>by
  have hx:x.cells.toList.length=size:=by rw[Array.length_toList];exact hsz x (by simp)
  simp only[List.flatMap_cons] at h;by_cases hm:m<size
  ·rw[List.getElem?_append_left (by omega)] at h;exact⟨0,m,x,by simp,rfl,h⟩
  ·rw[List.getElem?_append_right (by omega),hx] at h;obtain⟨j,k,v,h1,h2,h3⟩:=xAI (vs:=vs) (fun v hv=>hsz v (List.mem_cons_of_mem _ hv)) _ u h;exact⟨j+1,k,v,by rw[Nat.add_mul];omega,by simpa using h2,h3⟩
section
variable {P:Program} {X:Nat->List D->D} {w0:Base} {J:List D} {st:St} {g:Gh} {w:World} {a:Act}
theorem Rep.one{ok:Nat->Prop}{t:TypeId}{v:Value}{d:D}(h:Rep P ok w t v d)(h1:v.cells = #[v]):v.oneCell'=true:=by
 cases h with
 | row hu hd hlen hlen' hc hr =>
  rename_i vs ds;exfalso;simp only[Value.cells] at h1
  have:SizeOf.sizeOf (Value.agg vs.toArray)=SizeOf.sizeOf (Value.agg #[Value.agg vs.toArray]):=by rw[<- h1]
  simp at this;omega
 | _=>rfl
theorem Rep.cells_one{ok:Nat->Prop}{t:TypeId}{v:Value}{d:D}(h:Rep P ok w t v d):∀u∈v.cells.toList,u.oneCell'=true:=by
 obtain⟨td,hu⟩:=h.desc;cases hd:zGA td with
 | false =>
  obtain⟨h1,_,h3⟩:=h.notAgg hu hd;intro u hu;rw[h1] at hu;simp at hu;subst hu;exact h3
 | true =>
  intro u hu';cases h with
  | row hu2 hd2 hlen hlen' hc hr =>
   rename_i vs ds;simp only[Value.cells] at hu';obtain⟨j,hj⟩:=List.mem_iff_getElem?.1 hu';have hjl:=(List.getElem?_eq_some_iff.1 hj).1;have ht:(tys P t)[j]? = some (tys P t)[j]:=List.getElem?_eq_getElem (by omega);have hdd:ds[j]? = some ds[j]:=List.getElem?_eq_getElem (by omega);exact(hr j _ u _ ht hj hdd).one (hc u hu')
  | int h'=>rw[hu] at h';cases h';simp[zGA] at hd
  | bool h'=>rw[hu] at h';cases h';simp[zGA] at hd
  | str h'=>rw[hu] at h';cases h';simp[zGA] at hd
  | flt h'=>rw[hu] at h';cases h';simp[zGA] at hd
  | snil h'=>rw[hu] at h';cases h';simp[zGA] at hd
  | bytes h'=>rw[hu] at h';cases h';simp[zGA] at hd
  | list h'=>rw[hu] at h';cases h';simp[zGA] at hd
  | pnil h'=>rw[hu] at h';cases h';simp[zGA] at hd
  | ptr h'=>rw[hu] at h';cases h';simp[zGA] at hd
  | mnil h'=>rw[hu] at h';cases h';simp[zGA] at hd
  | map h'=>rw[hu] at h';cases h';simp[zGA] at hd
theorem yRA.toRep{ok ok':Nat->Prop}{t:TypeId}{v:Value}{d:D}(h:yRA P ok w t v d)(hok:∀b,ok b->ok' b)(hb:∀b,v.ownBlock=some b->ok' b):Rep P ok' w t v d:=by
 obtain⟨e,i,n,xs,hu,hi,hown,hd⟩:=h;cases hd with
 | nil hv=>subst hv;exact .snil hu
 | bytes hv he hs =>
  rename_i s;rcases hown.2 with⟨rfl,_⟩|⟨b,cap,cur,rfl,hb',hh,hn,hm,hsz,htake⟩
  ·simp[Value.ownBlock] at hv
  ·refine .bytes hu he (fun _=>⟨rfl,hb b rfl⟩) hn hm (fun j u hj=>?_)
   have:=hown.cells (g:=b) rfl j u hj
   rwa [zWB] at this
 | list hv he hlen hsz hr =>
  rename_i vs ds;rcases hown.2 with⟨rfl,_⟩|⟨b,cap,cur,rfl,hb',hh,hn,hm,hcs,htake⟩
  ·simp[Value.ownBlock] at hv
  ·refine .list hu he hi (fun _=>⟨rfl,hb b rfl⟩) hlen hn hm hsz (fun j u hj k x hx=>?_) (fun j u x h1 h2=>(hr j u x h1 h2).mono hok (fun _ _=>rfl))
   have:=hown.cells (g:=b) rfl (j*i.size+k) x (yNG hsz j u k x hj hx)
   rw[zWB] at this
   rwa [Nat.zero_add] at this ⊢
theorem TagsAt.toRep{ok ok':Nat->Prop}{t:TypeId}{v:Value}{d:D}(h:TagsAt P ok w t v d)(hok:∀b,ok b->ok' b)(hb:∀b,zFA (.tags t) v=some b->ok' b):Rep P ok' w t v d:=by
 cases h with
 | nil hu=>exact .mnil hu
 | map hu hk hh hkeys hkw hs hborn hclock hr=>exact .map hu hk (hb _ rfl) hh hkeys hkw hs hborn hclock (fun x hx n d h1 h2=>(hr x hx n d h1 h2).mono hok (fun _ _=>rfl))
theorem Mem.settle1(h:Mem P X w0 J st g w)(n:Nat):Mem P X w0 J (settle1 st n) g w/\(∀b,okOf st g w b->okOf (settle1 st n) g w b):=by
 have key:∀(vi:VI) (t:TypeId),lk n st.vars=some vi->(∀ok':Nat->Prop,(∀b,okOf st g w b->ok' b)->(∀b,zFA vi.vt (g.rv n)=some b->ok' b)->Rep P ok' w t (g.rv n) (vi.de.eval X J)) ->
   Mem P X w0 J { st with vars:=upd n ⟨.set t,vi.de⟩ st.vars } g w/\(∀b,okOf st g w b->okOf { st with vars:=upd n ⟨.set t,vi.de⟩ st.vars } g w b):=by
  intro vi t hn hrep;have hact:∀b,Actv { st with vars:=upd n ⟨.set t,vi.de⟩ st.vars } g b->Actv st g b/\zFA vi.vt (g.rv n)≠some b:=by
   rintro b (⟨o,cs,h1,h2⟩|⟨m,vj,h1,h2⟩)
   ·exact⟨.inl ⟨o,cs,h1,h2⟩,fun e=>h.ov o n cs vi h1 hn (h2▸e)⟩
   ·by_cases hmn:n=m
    ·subst hmn;rw[zZA] at h1;cases h1;simp[zFA] at h2
    ·rw[yJA hmn] at h1;exact⟨.inr ⟨m,vj,h1,h2⟩,fun e=>hmn (h.vv n m vi vj b hn h1 e h2)⟩
  have hok:∀b,okOf st g w b->okOf { st with vars:=upd n ⟨.set t,vi.de⟩ st.vars } g w b:=fun b hb=>⟨hb.1,fun e=>hb.2.1 (hact b e).1,hb.2.2⟩
  have hold:∀m vj,n≠m->lk m (upd n ⟨.set t,vi.de⟩ st.vars)=some vj->lk m st.vars=some vj:=fun m vj hne hm=>by rwa [yJA hne] at hm
  refine⟨⟨?_,h.ob,h.oo,?_,?_,fun b hb=>h.lo b (hact b hb).1,h.lp,h.fr,h.lv,h.ex,h.gl⟩,hok⟩
  ·intro m vj hm;by_cases hmn:n=m
   ·subst hmn;rw[zZA] at hm;cases hm
    exact hrep _ hok (fun b hb=>⟨(h.va n vi hn).lt b hb,fun e=>(hact b e).2 hb,h.notEx (.inr ⟨n,vi,hn,hb⟩)⟩)
   ·exact(h.va m vj (hold m vj hmn hm)).mono hok (fun _ _=>rfl) (fun _ _=>rfl)
  ·intro m k vj vk b h1 h2 h3 h4;by_cases hm:n=m
   ·subst hm;rw[zZA] at h1;cases h1;simp[zFA] at h3
   ·by_cases hk:n=k
    ·subst hk;rw[zZA] at h2;cases h2;simp[zFA] at h4
    ·exact h.vv m k vj vk b (hold m vj hm h1) (hold k vk hk h2) h3 h4
  ·intro o m c vj h1 h2;by_cases hm:n=m
   ·subst hm;rw[zZA] at h2;cases h2;simp[zFA]
   ·exact h.ov o m c vj h1 (hold m vj hm h2)
 unfold Dx.settle1;split
 ·rename_i t de hn;exact key ⟨.own t,de⟩ t hn (fun ok' h1 h2=>yRA.toRep (h.va n _ hn) h1 h2)
 ·rename_i t de hn;exact key ⟨.tags t,de⟩ t hn (fun ok' h1 h2=>TagsAt.toRep (h.va n _ hn) h1 h2)
 ·exact⟨h,fun b hb=>hb⟩
theorem yYE(st:St)(n:Nat):(settle1 st n).env=st.env/\(settle1 st n).objs=st.objs/\(settle1 st n).obl=st.obl/\(settle1 st n).lvl=st.lvl/\(settle1 st n).nt=st.nt/\(settle1 st n).loops=st.loops /\ ∀m vi,lk m st.vars=some vi -> ∃vi',lk m (settle1 st n).vars=some vi':=by
 unfold settle1;split
 ·exact⟨rfl,rfl,rfl,rfl,rfl,rfl,fun m vi h=>qOA m vi h⟩
 ·exact⟨rfl,rfl,rfl,rfl,rfl,rfl,fun m vi h=>qOA m vi h⟩
 ·exact⟨rfl,rfl,rfl,rfl,rfl,rfl,fun m vi h=>⟨vi,h⟩⟩
mutual
theorem zGB:∀(st:St) (s:SV),(settle st s).env=st.env/\(settle st s).objs=st.objs/\(settle st s).obl=st.obl/\(settle st s).lvl=st.lvl/\(settle st s).nt=st.nt/\(settle st s).loops=st.loops /\ ∀m vi,lk m st.vars=some vi -> ∃vi',lk m (settle st s).vars=some vi'
 | st,.x n=>yYE st n
 | st,.agg l=>qBA st l
 | st,.i ..=>⟨rfl,rfl,rfl,rfl,rfl,rfl,fun m vi h=>⟨vi,h⟩⟩
 | st,.b ..=>⟨rfl,rfl,rfl,rfl,rfl,rfl,fun m vi h=>⟨vi,h⟩⟩
 | st,.s ..=>⟨rfl,rfl,rfl,rfl,rfl,rfl,fun m vi h=>⟨vi,h⟩⟩
 | st,.fl ..=>⟨rfl,rfl,rfl,rfl,rfl,rfl,fun m vi h=>⟨vi,h⟩⟩
 | st,.c ..=>⟨rfl,rfl,rfl,rfl,rfl,rfl,fun m vi h=>⟨vi,h⟩⟩
 | st,.xc ..=>⟨rfl,rfl,rfl,rfl,rfl,rfl,fun m vi h=>⟨vi,h⟩⟩
 | st,.oa ..=>⟨rfl,rfl,rfl,rfl,rfl,rfl,fun m vi h=>⟨vi,h⟩⟩
 | st,.osl ..=>⟨rfl,rfl,rfl,rfl,rfl,rfl,fun m vi h=>⟨vi,h⟩⟩
 | st,.ea ..=>⟨rfl,rfl,rfl,rfl,rfl,rfl,fun m vi h=>⟨vi,h⟩⟩
 | st,.ra ..=>⟨rfl,rfl,rfl,rfl,rfl,rfl,fun m vi h=>⟨vi,h⟩⟩
 | st,.tup ..=>⟨rfl,rfl,rfl,rfl,rfl,rfl,fun m vi h=>⟨vi,h⟩⟩
 | st,.w ..=>⟨rfl,rfl,rfl,rfl,rfl,rfl,fun m vi h=>⟨vi,h⟩⟩
theorem qBA:∀(st:St) (l:List SV),(settles st l).env=st.env/\(settles st l).objs=st.objs/\(settles st l).obl=st.obl/\(settles st l).lvl=st.lvl/\(settles st l).nt=st.nt/\(settles st l).loops=st.loops /\ ∀m vi,lk m st.vars=some vi -> ∃vi',lk m (settles st l).vars=some vi'
 | st,[]=>⟨rfl,rfl,rfl,rfl,rfl,rfl,fun m vi h=>⟨vi,h⟩⟩
 | st,a::as=>by
  obtain⟨h1,h2,h3,h4,h5,h6,h7⟩:=zGB st a;obtain⟨k1,k2,k3,k4,k5,k6,k7⟩:=qBA (settle st a) as;refine⟨k1.trans h1,k2.trans h2,k3.trans h3,k4.trans h4,k5.trans h5,k6.trans h6,fun m vi hm=>?_⟩;obtain⟨vi',hm'⟩:=h7 m vi hm;exact k7 m vi' hm'
end
mutual
theorem Mem.settle{P:Program}{X:Nat->List D->D}{w0:Base}{J:List D}{g:Gh}{w:World}:∀ {st:St} (s:SV),Mem P X w0 J st g w->Mem P X w0 J (settle st s) g w/\(∀b,okOf st g w b->okOf (Dx.settle st s) g w b)
 | st,.x n,h=>h.settle1 n
 | st,.agg l,h=>Mem.settles l h
 | st,.i ..,h=>⟨h,fun _ hb=>hb⟩
 | st,.b ..,h=>⟨h,fun _ hb=>hb⟩
 | st,.s ..,h=>⟨h,fun _ hb=>hb⟩
 | st,.fl ..,h=>⟨h,fun _ hb=>hb⟩
 | st,.c ..,h=>⟨h,fun _ hb=>hb⟩
 | st,.xc ..,h=>⟨h,fun _ hb=>hb⟩
 | st,.oa ..,h=>⟨h,fun _ hb=>hb⟩
 | st,.osl ..,h=>⟨h,fun _ hb=>hb⟩
 | st,.ea ..,h=>⟨h,fun _ hb=>hb⟩
 | st,.ra ..,h=>⟨h,fun _ hb=>hb⟩
 | st,.tup ..,h=>⟨h,fun _ hb=>hb⟩
 | st,.w ..,h=>⟨h,fun _ hb=>hb⟩
theorem Mem.settles{P:Program}{X:Nat->List D->D}{w0:Base}{J:List D}{g:Gh}{w:World}:∀ {st:St} (l:List SV),Mem P X w0 J st g w->Mem P X w0 J (settles st l) g w/\(∀b,okOf st g w b->okOf (Dx.settles st l) g w b)
 | st,[],h=>⟨h,fun _ hb=>hb⟩
 | st,a::as,h=>by
  obtain⟨h1,h2⟩:=Mem.settle a h;obtain⟨k1,k2⟩:=Mem.settles as h1;exact⟨k1,fun b hb=>k2 b (h2 b hb)⟩
end
end
end Go.Dx
namespace Go.Dx
open Go
section
variable {P:Program} {X:Nat->List D->D} {Pre:Nat->List D->Prop} {w0:Base} {J:List D} {st:St} {g:Gh} {w:World} {a:Act}
theorem yRA.nilv{ok:Nat->Prop}{t e:TypeId}{i:TypeInfo}(hu:P.underlying t=some (.slice e))(hi:P.info? e=some i):yRA P ok w t (.slice none 0 0) .nil :=
 ⟨e,i,0,[],hu,hi,World.ownsRow_nil _ _ _ _,.nil rfl⟩
theorem Rep.source{ok:Nat->Prop}{t e:TypeId}{i:TypeInfo}{v:Value}{d:D}(h:Rep P ok w t v d)(hu:P.underlying t=some (.slice e))(hi:P.info? e=some i)(hu8:P.underlying e=some (.int .u8)->i.size=1) :
  (v = .slice none 0 0/\d = .nil) ∨ ∃(ad:Addr) (m c:Nat) (news:List Value),v = .slice (some ad) m c/\news.length=m*i.size/\m=d.len/\(∀j u,news[j]? = some u->w.cell? (ad.add j)=some u)/\(∀u∈news,u.oneCell'=true) /\
   ((P.underlying e=some (.int .u8) /\ ∃s:List UInt8,d = .bytes s/\news=s.map fun x=>.int .u8 x.toNat)∨(P.underlying e≠some (.int .u8) /\ ∃(vs:List Value) (ds:List D),d = .list ds/\vs.length=ds.length/\news=(vs.flatMap fun u=>u.cells.toList)/\(∀u∈vs,u.cells.size=i.size) /\
    ∀(j:Nat) (u:Value) (x:D),vs[j]? = some u->ds[j]? = some x->Rep P ok w e u x)):=by
 cases h with
 | snil=>exact .inl ⟨rfl,rfl⟩
 | bytes hu' he hok hcap hmax hc =>
  rw[hu] at hu';cases hu'
  rename_i cap ad s;refine .inr ⟨ad,s.length,cap,_,rfl,by rw[List.length_map,hu8 he,Nat.mul_one],rfl,fun j u hj=>by
   have h0:=(List.getElem?_eq_some_iff.1 hj).1;rw[List.length_map] at h0;rw[yBD (hok (by omega)).1];exact hc j u hj,?_,.inl ⟨he,s,rfl,rfl⟩⟩
  intro u hu;obtain⟨x,_,rfl⟩:=List.mem_map.1 hu;rfl
 | list hu' he hi' hok hlen hcap hmax hsz hc hr =>
  rw[hu] at hu';cases hu'
  rw[hi] at hi';cases hi'
  rename_i cap ad vs ds;refine .inr ⟨ad,ds.length,cap,_,rfl,by rw[xPE hsz,hlen],rfl,fun j u hj=>?_,?_,.inr ⟨he,vs,ds,rfl,hlen,rfl,hsz,hr⟩⟩
  ·obtain⟨r,k,v,rfl,h2,h3⟩:=xAI hsz j u hj;have h0:=(List.getElem?_eq_some_iff.1 h2).1;rw[yBD (hok (by omega)).1,<- Nat.add_assoc];exact hc r v h2 k u h3
  ·intro u hu;obtain⟨v,hv,hu'⟩:=List.mem_flatMap.1 hu;obtain⟨r,hr1⟩:=List.mem_iff_getElem?.1 hv;have hlt:=(List.getElem?_eq_some_iff.1 hr1).1;have hd:ds[r]? = some ds[r]:=List.getElem?_eq_getElem (by omega);exact(hr r v _ hr1 hd).cells_one u hu'
 | int hu'=>rw[hu] at hu';cases hu'
 | bool hu'=>rw[hu] at hu';cases hu'
 | str hu'=>rw[hu] at hu';cases hu'
 | flt hu'=>rw[hu] at hu';cases hu'
 | row hu' hd=>rw[hu] at hu';cases hu';simp[zGA] at hd
 | pnil hu'=>rw[hu] at hu';cases hu'
 | ptr hu'=>rw[hu] at hu';cases hu'
 | mnil hu'=>rw[hu] at hu';cases hu'
 | map hu'=>rw[hu] at hu';cases hu'
theorem qQD{e:TypeId}{size:Nat}{v:Value}{n:Nat}{xs:List Value}(h:w.ownsRow 0 e size v n xs)(hv:¬(v = .slice none 0 0)):v.ownBlock≠none:=by
 rcases h.2 with⟨h1,_⟩|⟨b,cap,cur,rfl,_⟩
 ·exact absurd h1 hv
 ·simp[Value.ownBlock]
theorem qBG{t ty e:TypeId}{i:TypeInfo}{z:Value}(hu:P.underlying t=some (.slice e))(hi:P.info? e=some i)(hz:i.zero=some z){v:Value}{n:Nat}{xs:List Value}(hown:w.ownsRow 0 e i.size v n xs)
  (ad:Addr) (m c:Nat) (news:List Value) (hl:news.length=m*i.size) (hnews:∀j u,news[j]? = some u->w.cell? (ad.add j)=some u) (h1:∀u∈news,u.oneCell'=true)
  (h63:n+m<=maxLen) (hbytes:(n+m)*i.bytes<=140737488355328) {v':Value} {w':World} (hrun:(Builtin.append_ #[t,t] ty #[v,.slice (some ad) m c]).run P w = .ok v' w') :
  ∀k,v'.ownBlock=some k->w.heap.size<=k∨v.ownBlock=some k:=by
 intro k hk;have hsmall:n+m<=9223372036854775807:=by simp only[maxLen] at h63;omega
 rcases hown.2 with⟨rfl,rfl⟩|⟨g,cap,cur,rfl,hbg,hg,hnc,hcm,hcs,htake⟩
 ·by_cases hm:m=0
  ·subst hm;have hn:news=[]:=List.eq_nil_of_length_eq_zero (by simpa using hl);subst hn;have hr:(Builtin.append_ #[t,t] ty #[.slice none 0 0,.slice (some ad) 0 c]).run P w = .ok (.slice none 0 0) w:=by
    simp[Builtin.append_,run_underlying hu,sizeOf,typeInfo,hi,Builtin.lenOf,Builtin.firstCells,loadCells,loadCellsFrom]
   rw[hr] at hrun;cases hrun
   simp[Value.ownBlock] at hk
  ·have hr:=run_append_nil (P:=P) w t ty e i z hu hi hz ad m c news hl hnews (by omega) (by omega) (by have hb:=hbytes;simp only[Nat.zero_add] at hb;omega);rw[hr] at hrun;cases hrun
   simp[Value.ownBlock] at hk;left;omega
 ·by_cases hroom:n+m<=cap
  ·have hfit:n*i.size+news.length<=cur.size:=by rw[hl,hcs,<- Nat.add_mul];exact Nat.mul_le_mul_right _ hroom
   have hr:=run_append_room (P:=P) w t ty e i hu hi g n cap cur hg ad m c news hl hnews h1 hroom hfit;rw[hr] at hrun;cases hrun
   exact .inr hk
  ·have holds:∀j u,xs[j]? = some u->w.cell? ((⟨g,0,none⟩:Addr).add j)=some u:=hown.cells (g:=g) rfl;have hr:=run_append_grow (P:=P) w t ty e i z hu hi hz ⟨g,0,none⟩ n cap xs hown.1 holds ad m c news hl hnews (by omega) (by omega) (growslice_fits (by omega) hbytes);rw[hr] at hrun;cases hrun
   simp[Value.ownBlock] at hk;left;omega
theorem yYJ{ok:Nat->Prop}{t ty e:TypeId}{i:TypeInfo}{z:Value}(hu:P.underlying t=some (.slice e))(hi:P.info? e=some i)(hz:i.zero=some z)(hzs:z.cells.size=i.size)(hsz:0<i.size)
  (hu8:P.underlying e=some (.int .u8)->i.size=1) {v vx:Value} {d dx:D} (hown:yRA P ok w t v d) (hx:Rep P ok w t vx dx)
  (hroom:(d.appd dx).len*i.bytes<=LIM) (hmax:(d.appd dx).len<=maxLen) :
  ∃v' w',(Builtin.append_ #[t,t] ty #[v,vx]).run P w = .ok v' w'/\w.grownBy w' v.ownBlock/\(∀b,v'.ownBlock=some b->(w.heap.size<=b∨v.ownBlock=some b)/\b<w'.heap.size) /\
   ∀ok':Nat->Prop,(∀b,ok b->ok' b/\w'.heap[b]? = w.heap[b]?)->yRA P ok' w' t v' (d.appd dx):=by
 obtain⟨e',i',n,xs,hu',hi',hrow,hd⟩:=hown;rw[hu] at hu';cases hu'
 rw[hi] at hi';cases hi'
 rcases hx.source hu hi hu8 with⟨rfl,rfl⟩|⟨ad,m,c,news,rfl,hl,hm,hnews,h1,hdat⟩
 ·refine⟨v,w,run_append_owned_none (P:=P) (w:=w) 0 t ty e i i.size hu hi v n xs hrow,⟨rfl,rfl,rfl,Nat.le_refl _,fun _ _ _=>rfl⟩,fun b hb=>⟨.inr hb,(hrow.lt b hb).2⟩,fun ok' hok'=>?_⟩;have he:d.appd .nil=d:=by cases d <;> rfl
  rw[he];exact⟨e,i,n,xs,hu,hi,hrow,hd.mono (fun b hb=>(hok' b hb).1) (fun _ _=>rfl)⟩
 ·have hlenD:(d.appd dx).len=n+m:=by
   rcases hdat with⟨he8,s,rfl,_⟩|⟨hne,vs,ds,rfl,_⟩
   ·cases hd with
    | nil=>simp only[D.len] at hm;cases s <;> simp[D.appd,D.len,hm]
    | bytes=>simp[D.appd,D.len,hm]
    | list hv he=>exact absurd he8 he
   ·cases hd with
    | nil=>simp only[D.len] at hm;cases ds <;> simp[D.appd,D.len,hm]
    | bytes hv he=>exact absurd he hne
    | list=>simp[D.appd,D.len,hm]
  have h63:n+m<=maxLen:=by rw[<- hlenD];exact hmax
  have hby:(n+m)*i.bytes<=140737488355328:=by rw[<- hlenD];exact hroom
  obtain⟨v',w',hrun,hrow',hg,hnil⟩:=run_append_own (P:=P) w 0 t ty e i z i.size i.bytes hu hi hz rfl rfl hzs hsz v n xs hrow ad m c news hl hnews h1 h63 hby (Nat.zero_le _);refine⟨v',w',hrun,hg,fun k hk=>⟨qBG hu hi hz hrow _ m c news hl hnews h1 h63 hby hrun k hk,(hrow'.lt k hk).2⟩,fun ok' hok'=>⟨e,i,n+m,xs++news,hu,hi,hrow',?_⟩⟩;by_cases hvn:v' = .slice none 0 0
  ·obtain⟨hv0,hm0⟩:=hnil.1 hvn;have hn0:n=0:=by
    rcases hrow.2 with⟨_,h⟩|⟨_,_,_,h,_⟩
    ·exact h
    ·rw[hv0] at h;cases h
   have hdn:d.appd dx = .nil:=by
    have hd0:d = .nil:=by
     cases hd with
     | nil=>rfl
     | bytes hv=>rw[hv0] at hv;simp[Value.ownBlock] at hv
     | list hv=>rw[hv0] at hv;simp[Value.ownBlock] at hv
    subst hd0;rcases hdat with⟨_,s,rfl,_⟩|⟨hne,vs,ds,rfl,_⟩
    ·simp only[D.len] at hm;have:s=[]:=List.eq_nil_of_length_eq_zero (by omega);subst this;rfl
    ·simp only[D.len] at hm;have:ds=[]:=List.eq_nil_of_length_eq_zero (by omega);subst this;rfl
   have hxs:xs=[]:=List.eq_nil_of_length_eq_zero (by rw[hrow.1,hn0];simp);have hne:news=[]:=List.eq_nil_of_length_eq_zero (by rw[hl,hm0];simp);subst hxs;subst hne;subst hn0;subst hm0
   rw[hdn];exact .nil hvn
  ·have hob:=qQD hrow' hvn;rcases hdat with⟨he,s,rfl,rfl⟩|⟨hne,vs,ds,rfl,hlen,rfl,hvs,hr⟩
   ·simp only[D.len] at hm;subst hm
    cases hd with
    | nil hv =>
     have hs:s≠[]:=fun h=>hvn (hnil.2 ⟨hv,by rw[h];rfl⟩)
     have e1:D.appd .nil (.bytes s) = .bytes s:=by cases s <;> simp_all [D.appd]
     rw[e1];simp only[Nat.zero_add,List.nil_append];exact .bytes hob he (hu8 he)
    | bytes hv he' hs =>
     rename_i s0
     have:=OwnD.bytes (P:=P) (ok:=ok') (w:=w') (e:=e) (size:=i.size) (s:=s0++s) hob he hs
     simpa[D.appd] using this
    | list hv he'=>exact absurd he he'
   ·simp only[D.len] at hm;subst hm
    have hrr:∀(j:Nat) (u:Value) (x:D),vs[j]? = some u->ds[j]? = some x->Rep P ok' w' e u x:=fun j u x h1 h2=>(hr j u x h1 h2).mono (fun b hb=>(hok' b hb).1) (fun b hb=>(hok' b hb).2)
    cases hd with
    | nil hv =>
     have hs:ds≠[]:=fun h=>hvn (hnil.2 ⟨hv,by rw[h];rfl⟩)
     have e1:D.appd .nil (.list ds) = .list ds:=by cases ds <;> simp_all [D.appd]
     rw[e1];simp only[Nat.zero_add,List.nil_append];exact .list hob hne hlen hvs hrr
    | bytes hv he' hs=>exact absurd he' hne
    | list hv he' hlen0 hvs0 hr0 =>
     rename_i vs0 ds0
     have:=OwnD.list (P:=P) (ok:=ok') (w:=w') (e:=e) (size:=i.size) (v:=v') (vs:=vs0++vs) (ds:=ds0++ds) hob hne (by simp[hlen0,hlen]) (fun u hu=>by
      rcases List.mem_append.1 hu with hu|hu
      ·exact hvs0 u hu
      ·exact hvs u hu) (fun j u x h1 h2=>by
      by_cases hj:j<vs0.length
      ·rw[List.getElem?_append_left hj] at h1;rw[List.getElem?_append_left (by omega)] at h2;exact(hr0 j u x h1 h2).mono (fun b hb=>(hok' b hb).1) (fun b hb=>(hok' b hb).2)
      ·rw[List.getElem?_append_right (by omega)] at h1;rw[List.getElem?_append_right (by omega)] at h2;exact hrr (j-vs0.length) u x h1 (by rw[hlen0];exact h2))
     simpa[D.appd] using this
end
end Go.Dx
namespace Go.Dx
open Go
section
variable {P:Program} {X:Nat->List D->D} {Pre:Nat->List D->Prop} {w0:Base} {J:List D} {st:St} {g:Gh} {w:World} {a:Act}
theorem yRD{t u ty e:TypeId}{i:TypeInfo}(ht:P.underlying t=some (.slice e))(hu:P.underlying u=some .string)(hi:P.info? e=some i)(hz:i.zero=some (.int .u8 0))(hsize:i.size=1)(hby:i.bytes=1)
  {v:Value} {n:Nat} {xs:List Value} (hown:w.ownsRow 0 e 1 v n xs) (s:ByteArray) (h63:n+s.size<=maxLen) (hbytes:n+s.size<=140737488355328) {v':Value} {w':World} (hrun:(Builtin.append_ #[t,u] ty #[v,.string s]).run P w = .ok v' w') :
  ∀k,v'.ownBlock=some k->w.heap.size<=k∨v.ownBlock=some k:=by
 intro k hk;have hsmall:n+s.size<=9223372036854775807:=by simp only[maxLen] at h63;omega
 have hxl:xs.length=n:=by simpa using hown.1
 rcases hown.2 with⟨rfl,rfl⟩|⟨g,cap,cur,rfl,hbg,hg,hnc,hcm,hcs,htake⟩
 ·by_cases hm:s.size=0
  ·have hn:Lib.strCells s=[]:=List.eq_nil_of_length_eq_zero (by rw[Lib.strCells_length];exact hm);have hf:=Lib.run_firstCells_string (P:=P) w 1 s;rw[hm] at hf;have hr:(Builtin.append_ #[t,u] ty #[.slice none 0 0,.string s]).run P w = .ok (.slice none 0 0) w:=by
    simp[Builtin.append_,run_underlying ht,run_underlying hu,sizeOf,typeInfo,hi,hsize,Builtin.lenOf,hm,hf]
   rw[hr] at hrun;cases hrun
   simp[Value.ownBlock] at hk
  ·have hr:=run_append_nil_string (P:=P) w t u ty e i (.int .u8 0) ht hu hi hz s (by omega) (by omega) (by rw[hby];omega);rw[hr] at hrun;cases hrun
   simp[Value.ownBlock] at hk;left;omega
 ·by_cases hroom:n+s.size<=cap
  ·have hcs':cur.size=cap:=by simpa using hcs
   have hr:=Lib.run_append_room_string (P:=P) w t u ty e i ht hu hi hsize g n cap cur hg s hroom (by omega);rw[hr] at hrun;cases hrun
   exact .inr hk
  ·have holds:∀j u,xs[j]? = some u->w.cell? ((⟨g,0,none⟩:Addr).add j)=some u:=hown.cells (g:=g) rfl;have hr:=Lib.run_append_grow_string (P:=P) w t u ty e i (.int .u8 0) ht hu hi hz ⟨g,0,none⟩ n cap xs (by rw[hsize];simpa using hxl) holds s (by omega) (by omega) (by rw[hby];exact growslice_fits (by omega) (by omega));rw[hr] at hrun;cases hrun
   simp[Value.ownBlock] at hk;left;omega
theorem xQG(s:List UInt8):Lib.strCells ⟨s.toArray⟩=s.map fun x=>Value.int .u8 x.toNat:=by simp[Lib.strCells]
theorem yKF{ok:Nat->Prop}{t u ty e:TypeId}{i:TypeInfo}(ht:P.underlying t=some (.slice e))(hu:P.underlying u=some .string)(hi:P.info? e=some i)(hz:i.zero=some (.int .u8 0))(hsize:i.size=1)(hby:i.bytes=1)
  (he:P.underlying e=some (.int .u8)) {v:Value} {d:D} (hown:yRA P ok w t v d) (s:List UInt8)
  (hroom:(d.appd (.str s)).len<=LIM) (hmax:(d.appd (.str s)).len<=maxLen) :
  ∃v' w',(Builtin.append_ #[t,u] ty #[v,.string ⟨s.toArray⟩]).run P w = .ok v' w'/\w.grownBy w' v.ownBlock/\(∀b,v'.ownBlock=some b->(w.heap.size<=b∨v.ownBlock=some b)/\b<w'.heap.size) /\
   ∀ok':Nat->Prop,(∀b,ok b->ok' b/\w'.heap[b]? = w.heap[b]?)->yRA P ok' w' t v' (d.appd (.str s)):=by
 obtain⟨e',i',n,xs,hu',hi',hrow,hd⟩:=hown;rw[ht] at hu';cases hu'
 rw[hi] at hi';cases hi'
 have hss:(⟨s.toArray⟩:ByteArray).size=s.length:=by show s.toArray.size=_;simp
 have hlenD:(d.appd (.str s)).len=n+s.length:=by
  cases hd with
  | nil=>cases s <;> simp[D.appd,D.len]
  | bytes=>simp[D.appd,D.len]
  | list hv hne=>exact absurd he hne
 rw[hlenD] at hroom hmax;rw[hsize] at hrow hd;obtain⟨v',w',hrun,hrow',hg,hnil⟩:=Lib.run_append_own_string (P:=P) w 0 t u ty e i ht hu hi hz hsize hby v n xs hrow ⟨s.toArray⟩ (by rw[hss];exact hmax) (by rw[hss];exact hroom) (Nat.zero_le _);refine⟨v',w',hrun,hg,fun k hk=>⟨yRD ht hu hi hz hsize hby hrow _ (by rw[hss];exact hmax) (by rw[hss];exact hroom) hrun k hk,(hrow'.lt k hk).2⟩,fun ok' hok'=>⟨e,i,n+s.length,xs++Lib.strCells ⟨s.toArray⟩,ht,hi,by rw[hsize,<- hss];exact hrow',?_⟩⟩;rw[hsize,xQG];rw[hss] at hrow' hnil;by_cases hvn:v' = .slice none 0 0
 ·obtain⟨hv0,hm0⟩:=hnil.1 hvn;have hs:s=[]:=List.eq_nil_of_length_eq_zero hm0;subst hs;cases hd with
  | nil=>exact .nil hvn
  | bytes hv=>rw[hv0] at hv;simp[Value.ownBlock] at hv
  | list hv=>rw[hv0] at hv;simp[Value.ownBlock] at hv
 ·have hob:=qQD hrow' hvn;cases hd with
  | nil hv =>
   have hs:s≠[]:=fun h=>hvn (hnil.2 ⟨hv,by rw[h];rfl⟩)
   have e1:D.appd .nil (.str s) = .bytes s:=by cases s <;> simp_all [D.appd]
   rw[e1];simp only[Nat.zero_add,List.nil_append];exact .bytes hob he rfl
  | bytes hv he' hs =>
   rename_i s0
   have:=OwnD.bytes (P:=P) (ok:=ok') (w:=w') (e:=e) (size:=1) (s:=s0++s) hob he rfl
   simpa[D.appd] using this
  | list hv he'=>exact absurd he he'
theorem qJC{e:TypeId}{i:TypeInfo}(h:yFD P e i=true):∃z,i.zero=some z/\z.cells.size=i.size/\0<i.size/\(P.underlying e=some (.int .u8)->i.size=1):=by
 unfold yFD at h;split at h
 ·rename_i z hz;simp only[baZ,beq_iff_eq,dtZ,Bool.or_eq_true,Bool.not_eq_true'] at h;refine⟨z,hz,h.1.1,h.1.2,fun hu=>?_⟩;rcases h.2 with h2|h2
  ·simp[isU8,hu] at h2
  ·exact h2
 ·cases h
theorem xHC(h:Mem P X w0 J st g w){t e:TypeId}{i:TypeInfo}(hu:P.underlying t=some (.slice e))(hi:P.info? e=some i){s:SV}{d:DE}{st1:St}(ht:xOD st t s=some (d,st1)) :
  Drops st st1 (fun b=>(s.den X J g).ownBlock=some b) g/\yRA P (okOf st g w) w t (s.den X J g) (d.eval X J)/\(∀b,(s.den X J g).ownBlock=some b->Actv st g b)/\st1.obl=st.obl:=by
 unfold xOD at ht;split at ht
 ·cases ht;refine⟨?_,yRA.nilv hu hi,fun b hb=>?_,rfl⟩
  ·refine⟨rfl,rfl,rfl,rfl,fun o cs h=>⟨h,fun e=>?_⟩,fun n vi h=>.inr ⟨h,fun b _ e=>?_⟩,fun n vi h=>⟨vi,h⟩,fun o cs h=>⟨cs,h⟩⟩
   ·simp[SV.den,CV.den,Value.ownBlock] at e
   ·simp[SV.den,CV.den,Value.ownBlock] at e
  ·simp[SV.den,CV.den,Value.ownBlock] at hb
 ·rename_i m;split at ht
  ·rename_i v de hm;split at ht
   ·rename_i hvt;subst hvt;cases ht;exact⟨Drops.kill h hm d st.obl,h.va m _ hm,fun b hb=>.inr ⟨m,_,hm,hb⟩,rfl⟩
   ·cases ht
  ·cases ht
 ·cases ht
theorem Env.settle(h:Env X J st g a)(s:SV):Env X J (settle st s) g a:=h.of_env (zGB st s).1 (zGB st s).2.2.2.2.1
theorem Env.settles(h:Env X J st g a)(s:List SV):Env X J (settles st s) g a:=h.of_env (qBA st s).1 (qBA st s).2.2.2.2.1
theorem Ext.settle(st:St)(g:Gh)(s:SV):Ext st g (settle st s) g:=Ext.keys (zGB st s).2.2.2.2.2.2 (fun o cs ho=>⟨cs,by rw[(zGB st s).2.1];exact ho⟩)
theorem Ext.settles(st:St)(g:Gh)(s:List SV):Ext st g (settles st s) g:=Ext.keys (qBA st s).2.2.2.2.2.2 (fun o cs ho=>⟨cs,by rw[(qBA st s).2.1];exact ho⟩)
theorem Drops.addOb{st1:St}{M:Nat->Prop}(h:Drops st st1 M g)(o:Ob):Drops st (addOb st1 o) M g:=⟨h.env,h.lvl,h.nt,h.lps,h.objs,h.vars,h.keysV,h.keysO⟩
def qMA(P:Program)(X:Nat->List D->D)(w0:Base)(J:List D)(st:St)(g:Gh)(a:Act)(m:Sem Value)(w:World)(s:SV)(st':St):Prop :=
 ∃w' g',m.run P w = .ok (s.den X J g') w'/\Ext st g st' g'/\Mem P X w0 J st' g' w'/\Env X J st' g' a/\s.ok X J
theorem zGJ(h:Mem P X w0 J st g w)(he:Env X J st g a){n:Nat}{t u ty:TypeId}{s x r:SV}{st':St}(hx:x.ok X J)(ha:appS P st n t u s x=some (r,st'))(hob:zCA X Pre st'.obl J) :
  qMA P X w0 J st g a (Builtin.append_ #[t,u] ty #[s.den X J g,x.den X J g]) w r st':=by
 unfold appS at ha;split at ha
 ·rename_i e hu;simp only[Option.bind_eq_bind,Option.bind_eq_some_iff] at ha;obtain⟨i,hi,ha⟩:=ha;split at ha
  ·rename_i hut;subst hut;split at ha
   ·rename_i hgo;obtain⟨z,hz,hzs,hsz,hu8⟩:=qJC hgo;obtain⟨d2,hd2,⟨d,st2⟩,hto,st3,hn,ha⟩:=(by simpa only[Option.bind_eq_bind,Option.bind_eq_some_iff] using ha:∃d2,svT P (Dx.settle st x) u x=some d2 /\ ∃y,xOD (Dx.settle st x) u s=some y /\ ∃st3,newV (addOb y.2 (.room (mkf .app [y.1,d2]) i.bytes)) ⟨.own u,mkf .app [y.1,d2]⟩ n=some st3/\some (SV.x n,st3)=some (r,st'));cases ha;obtain⟨hm1,_⟩:=Mem.settle x h;have he1:=he.settle x;have hrx:=yYA hm1 hx hd2;obtain⟨hdr,hown,hact,_⟩:=xHC hm1 hu hi hto;have hobl:st'.obl=(addOb st2 (.room (mkf .app [d,d2]) i.bytes)).obl:=by
     unfold newV at hn;split at hn
     ·cases hn;rfl
     ·cases hn
    rw[hobl] at hob;have ho1:=hob.1;simp only[Ob.holds,zEA,zDA,Fn.eval] at ho1;obtain⟨v',w',hrun,hg,hb,hv⟩:=yYJ (ty:=ty) hu hi hz hzs hsz hu8 hown hrx ho1.1 ho1.2;obtain⟨k1,k2,k3,k4,_⟩:=qOB hm1 he1 (M:=fun b=>(s.den X J g).ownBlock=some b) (Fr.grown hg (fun k hk=>hk)) (fun b _ hb=>hact b hb) (hdr.addOb _) hn (v:=v') (fun b hb'=>hb b hb')
     (fun ok' h1 h2=>by
      simp only[qUA,zEA,zDA,Fn.eval];exact hv ok' (fun b hb=>⟨h1 b hb,hg.block b hb.1 (fun e=>hb.2.1 (hact b e.symm))⟩))
    exact⟨w',_,by rw[k4];exact hrun,(Ext.settle st g x).trans k3,k1,k2,trivial⟩
   ·cases ha
  ·split at ha
   ·rename_i d2 hstr hz he8;split at ha
    ·rename_i hsz;obtain⟨⟨d,st2⟩,hto,st3,hn,ha⟩:=(by simpa only[Option.bind_eq_bind,Option.bind_eq_some_iff] using ha:∃y,xOD st t s=some y /\ ∃st3,newV (addOb y.2 (.room (mkf .app [y.1,d2]) 1)) ⟨.own t,mkf .app [y.1,d2]⟩ n=some st3/\some (SV.x n,st3)=some (r,st'));cases ha;obtain⟨hdr,hown,hact,_⟩:=xHC h hu hi hto;have hobl:st'.obl=(addOb st2 (.room (mkf .app [d,d2]) 1)).obl:=by
      unfold newV at hn;split at hn
      ·cases hn;rfl
      ·cases hn
     rw[hobl] at hob;have ho1:=hob.1;obtain⟨s2,hs2,hs2l⟩:=hx;simp only[Ob.holds,zEA,zDA,Fn.eval,Nat.mul_one,hs2] at ho1;obtain⟨v',w',hrun,hg,hb,hv⟩:=yKF (ty:=ty) hu hstr hi hz hsz.1 hsz.2 he8 hown s2 ho1.1 ho1.2;obtain⟨k1,k2,k3,k4,_⟩:=qOB h he (M:=fun b=>(s.den X J g).ownBlock=some b) (Fr.grown hg (fun k hk=>hk)) (fun b _ hb=>hact b hb) (hdr.addOb _) hn (v:=v') (fun b hb'=>hb b hb')
      (fun ok' h1 h2=>by
       simp only[qUA,zEA,zDA,Fn.eval,hs2];exact hv ok' (fun b hb=>⟨h1 b hb,hg.block b hb.1 (fun e=>hb.2.1 (hact b e.symm))⟩))
     exact⟨w',_,by rw[k4];simp only[SV.den,hs2,D.asStr];exact hrun,k3,k1,k2,trivial⟩
    ·cases ha
   ·cases ha
 ·cases ha
end
end Go.Dx
namespace Go.Dx
open Go
section
variable {P:Program} {X:Nat->List D->D} {Pre:Nat->List D->Prop} {w0:Base} {J:List D} {st:St} {g:Gh} {w:World} {a:Act}
theorem qMA.quiet(h:Mem P X w0 J st g w)(he:Env X J st g a){m:Sem Value}{s:SV}(hr:m.run P w = .ok (s.den X J g) w)(hs:s.ok X J):qMA P X w0 J st g a m w s st :=
 ⟨w,g,hr,Ext.refl st g,h,he,hs⟩
theorem xOH{v:Value}{d:D}(h:BytesAt w v d):d.asStr.length<=maxLen:=by
 cases h with
 | nil=>simp[D.asStr]
 | some hs hc h1 h2=>simp only[D.asStr];omega
theorem zYH{src dst e:TypeId}(hs:P.underlying src=some (.slice e))(hd:P.underlying dst=some .string)(h8:P.underlying e=some (.int .u8)){v:Value}{d:D}(hba:BytesAt w v d) :
  (convert src dst v).run P w = .ok (.string ⟨d.asStr.toArray⟩) w:=by
 unfold convert;simp only[Sem.run_bind,run_underlying hs,run_underlying hd,Result.andThen_ok];have hrun:=qAK (P:=P) hba;cases hba <;> (simp only[Sem.run_bind,run_underlying h8,Result.andThen_ok];exact hrun)
theorem xTH(h:Mem P X w0 J st g w)(he:Env X J st g a){n:Nat}{src dst:TypeId}{x r:SV}{st':St}(hx:x.ok X J)(hc:convS P st n src dst x=some (r,st')) :
  qMA P X w0 J st g a (convert src dst (x.den X J g)) w r st':=by
 unfold convS at hc;split at hc
 ·rename_i k1 k k2 e hs hd;cases hc;obtain⟨m,hm,_⟩:=hx;refine qMA.quiet h he ?_ ⟨_,by rw[zEA];rfl,zCC _ _⟩;unfold convert;simp only[Sem.run_bind,run_underlying hs,run_underlying hd,Result.andThen_ok];simp[SV.den,Conv.intToInt,zEA,zDA,Fn.eval,hm,D.asInt]
 ·rename_i x e hs hd;split at hc
  ·rename_i d h8 hb;cases hc;have hba:=yCG h hx hb hs h8;refine qMA.quiet h he ?_ ⟨_,by rw[zEA];rfl,by simpa[zDA] using xOH hba⟩;rw[zYH hs hd h8 hba];simp only[SV.den,zEA,zDA,Fn.eval,D.asStr]
  ·cases hc
 ·rename_i e d hs hd;split at hc
  ·rename_i h8;obtain⟨st1,hn,hc⟩:=(by simpa only[Option.bind_eq_bind,Option.bind_eq_some_iff] using hc:∃y,newV st ⟨.set dst,mkf .toBytes [d]⟩ n=some y/\some (SV.x n,y)=some (r,st'));cases hc;obtain⟨s,hs1,hs2⟩:=hx;have hss:(⟨s.toArray⟩:ByteArray).size=s.length:=by show s.toArray.size=_;simp
   obtain⟨cap,w',hrun,hf,hlt,hcap,hmax,hcells⟩:=zNI (P:=P) (e:=e) ⟨s.toArray⟩ (by rw[hss];exact hs2) w;obtain⟨k1,k2,k3,k4,_⟩:=xJC h he hf hn (v:=.slice (some ⟨w.heap.size,0,none⟩) s.length cap) (fun ok' h1 h2=>by
    simp only[zEA,zDA,Fn.eval,hs1,D.asStr];exact .bytes hd h8 (fun _=>⟨rfl,h2 _ (Nat.le_refl _) hlt⟩) (by rw[hss] at hcap;exact hcap) hmax (by simpa using hcells))
   refine⟨w',_,?_,k3,k1,k2,trivial⟩;rw[k4];unfold convert;simp only[Sem.run_bind,run_underlying hs,run_underlying hd,Result.andThen_ok];simp only[SV.den,hs1,D.asStr,Sem.run_bind,run_underlying h8,Result.andThen_ok];rw[hrun,hss]
  ·cases hc
 ·cases hc
theorem zSH:∀(z:List Value) (n:Nat),z≠[]->((List.range (n*z.length)).map fun i=>z.getD (i%z.length) undef)=(List.replicate n z).flatten
 | z,0,_=>by simp
 | z,n+1,hz=>by
  have hpos:0<z.length:=List.length_pos_iff.2 hz;rw[Nat.add_mul,Nat.one_mul,Nat.add_comm (n*z.length),List.range_add,List.map_append,List.replicate_succ,List.flatten_cons]
  congr 1
  ·apply List.ext_getElem
   ·simp
   ·intro i h1 h2;simp only[List.length_map,List.length_range] at h1;simp[Nat.mod_eq_of_lt h1,List.getD,List.getElem?_eq_getElem h1]
  ·rw[<- zSH z n hz,List.map_map];apply List.map_congr_left;intro i _;simp[Function.comp]
theorem xBC(z:Array Value)(n size:Nat)(hs:z.size=size)(hp:0<size):((Array.range (n*size)).map fun i=>z[i%z.size]!)=((List.replicate n z.toList).flatten).toArray:=by
 subst hs
 have:=zSH z.toList n (fun e=>by
  have h:z.toList.length=0:=by rw[e];rfl
  rw[Array.length_toList] at h;omega)
 rw[<- this];apply Array.ext';simp only[Array.toList_map,Array.toList_range,Array.length_toList];apply List.map_congr_left;intro i _;have hlt:i%z.size<z.size:=Nat.mod_lt _ hp;simp[List.getD,hlt,Array.getElem!_eq_getD,Array.getD,undef]
theorem qPE(l m:List SV):dens X J g (l++m)=dens X J g l++dens X J g m:=by simp[zRA]
theorem qRB(z:List SV):∀n,dens X J g (List.replicate n z).flatten=(List.replicate n (dens X J g z)).flatten
 | 0=>by simp[dens]
 | n+1=>by simp[List.replicate_succ,qPE,qRB z n]
theorem xEH(h:Mem P X w0 J st g w)(he:Env X J st g a){cells:Array Value}{e:TypeId}{n:Nat}{t:TypeId}{de:DE}{v:Value}{st1 st':St}(hst:st1.env=st.env/\st1.lvl=st.lvl/\st1.nt=st.nt/\st1.loops=st.loops/\st1.objs=st.objs/\st1.vars=st.vars)
  (hn:newV st1 ⟨.own t,de⟩ n=some st') (hb:v.ownBlock=some w.heap.size)
  (hv:∀ok':Nat->Prop,(∀b,okOf st g w b->ok' b)->yRA P ok' (w.alloc (.cells cells e)) t v (de.eval X J)) :
  Mem P X w0 J st' (g.setV n v (0,0)) (w.alloc (.cells cells e))/\Env X J st' (g.setV n v (0,0)) a/\Ext st g st' (g.setV n v (0,0))/\(SV.x n).den X J (g.setV n v (0,0))=v/\st'.obl=st1.obl:=by
 have hd:Drops st st1 (fun _=>False) g:=⟨hst.1,hst.2.1,hst.2.2.1,hst.2.2.2.1,fun o cs ho=>⟨hst.2.2.2.2.1▸ho,fun e=>e⟩,fun m vi hm=>.inr ⟨hst.2.2.2.2.2▸hm,fun b _ e=>e⟩,fun m vi hm=>⟨vi,hst.2.2.2.2.2▸hm⟩,fun o cs ho=>⟨cs,hst.2.2.2.2.1▸ho⟩⟩;exact qOB h he (Fr.alloc _ _ _) (fun _ _ e=>e.elim) hd hn (fun b hb'=>by
  have:zFA (VT.own t) v=some w.heap.size:=hb
  simp only at hb';rw[this] at hb';cases hb'
  exact⟨.inl (Nat.le_refl _),by simp⟩) (fun ok' h1 _=>hv ok' h1)
end
end Go.Dx
