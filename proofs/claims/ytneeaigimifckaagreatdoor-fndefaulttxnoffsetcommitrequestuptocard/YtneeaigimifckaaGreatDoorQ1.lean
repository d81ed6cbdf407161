/- Part of a verified symbolic run of the program's code (no condition of its own). -/
import Derived.WalkKit
import Derived.ProofKit
import Derived.Orders
import Derived.Lib.AppendStr
import Derived.Laws.MakeOwn
import Derived.Lib.AppendZeros
set_option linter.unusedVariables false
set_option linter.unusedSimpArgs false
noncomputable section
namespace Go.Dx
open Go
theorem gzZ{α:Type _}{x d:α}{l:List α}:(x::l).getD 0 d=x:=List.getD_cons_zero
theorem gsZ{α:Type _}{x d:α}{l:List α}{n:Nat}:(x::l).getD (n+1) d=l.getD n d:=List.getD_cons_succ
theorem baZ(a b:Bool):((a&&b)=true)=(a=true/\b=true):=Bool.and_eq_true a b
theorem bfZ:(false=true)=False:=Bool.false_eq_true
theorem dtZ{p:Prop}[Decidable p]:(decide p=true)=p:=decide_eq_true_eq
inductive D where
 | int (n:Int)
 | bool (b:Bool)
 | str (s:List UInt8)
 | flt (n:Nat)
 | nil
 | bytes (s:List UInt8)
 | list (l:List D)
 | row (l:List D)
 | ptr (d:D)
 | map (l:List (Int×D))
 deriving Inhabited
structure Fr (M:Nat->Prop) (w w':World):Prop where
 os:w'.os=w.os
 tape:w'.tape=w.tape
 output:w'.output=w.output
 size:w.heap.size<=w'.heap.size
 block:∀k,k<w.heap.size -> ¬M k->w'.heap[k]? = w.heap[k]?
theorem Fr.refl(M:Nat->Prop)(w:World):Fr M w w:=⟨rfl,rfl,rfl,Nat.le_refl _,fun _ _ _=>rfl⟩
theorem Fr.trans{M M':Nat->Prop}{a b c:World}(h:Fr M a b)(k:Fr M' b c)(hM:∀x,x<a.heap.size->M' x->M x):Fr M a c :=
 ⟨k.os.trans h.os,k.tape.trans h.tape,k.output.trans h.output,Nat.le_trans h.size k.size,fun i hi hm =>
  (k.block i (Nat.lt_of_lt_of_le hi h.size) (fun e=>hm (hM i hi e))).trans (h.block i hi hm)⟩
theorem Fr.mono{M M':Nat->Prop}{w w':World}(h:Fr M w w')(hM:∀x,x<w.heap.size->M x->M' x):Fr M' w w' :=
 ⟨h.os,h.tape,h.output,h.size,fun k hk hm=>h.block k hk (fun e=>hm (hM k hk e))⟩
theorem Fr.alloc(M:Nat->Prop)(w:World)(o:Obj):Fr M w (w.alloc o) :=
 ⟨rfl,rfl,rfl,by simp,fun k hk _=>Go.RowKit.Below.heap_alloc w o k hk⟩
theorem Fr.drew(M:Nat->Prop)(w:World):Fr M w w.drew:=⟨rfl,rfl,rfl,Nat.le_refl _,fun _ _ _=>rfl⟩
theorem Fr.setCell{M:Nat->Prop}(w:World)(a:Addr)(v:Value)(h:M a.block):Fr M w (w.setCell a v) :=
 ⟨rfl,rfl,rfl,by simp,fun k _ hm=>heap_setCell_other w a k v (fun e=>hm (e▸h))⟩
theorem Fr.grown{M:Nat->Prop}{w w':World}{row:Option Nat}(h:w.grownBy w' row)(hM:∀k,row=some k->M k):Fr M w w' :=
 ⟨h.os,h.tape,h.output,h.size,fun k hk hm=>h.block k hk (fun e=>hm (hM k e.symm))⟩
def xLA(w:World)(b off:Nat)(vs:List Value):Prop:=∀j v,vs[j]? = some v->w.cell? ⟨b,off+j,none⟩=some v
theorem qLJ{w w':World}{b o:Nat}(h:w'.heap[b]? = w.heap[b]?):w'.cell? ⟨b,o,none⟩=w.cell? ⟨b,o,none⟩:=by
 simp[World.cell?,h]
theorem xLA.frame{w w':World}{b off:Nat}{vs:List Value}(h:xLA w b off vs)(hb:w'.heap[b]? = w.heap[b]?):xLA w' b off vs :=
 fun j v hj=>(qLJ hb).trans (h j v hj)
theorem xLA.part{w:World}{b off:Nat}{vs:List Value}(h:xLA w b off vs)(i n:Nat):xLA w b (off+i) ((vs.drop i).take n):=by
 intro j v hj;rw[List.getElem?_take] at hj;split at hj
 ·rw[List.getElem?_drop] at hj
  have:=h (i+j) v hj
  rwa [<- Nat.add_assoc] at this
 ·cases hj
def zHA:TypeDesc->Bool
 | .struct _=>true
 | .array _ _=>true
 | _=>false
def zMF(P:Program):Nat->TypeId->List TypeId
 | 0,t=>[t]
 | n+1,t =>
  match P.underlying t with
  | some (.struct fs)=>fs.toList.flatMap fun f=>zMF P n f.type
  | some (.array m e)=>(List.replicate m (zMF P n e)).flatten
  | _=>[t]
abbrev tys (P:Program) (t:TypeId):List TypeId:=zMF P 6 t
inductive Rep (P:Program) (ok:Nat->Prop) (w:World):TypeId->Value->D->Prop where
 | int {t k n} (hu:P.underlying t=some (.int k)) (h:(Lit.int k n).wf=true):Rep P ok w t (.int k n) (.int n)
 | bool {t b} (hu:P.underlying t=some .bool):Rep P ok w t (.bool b) (.bool b)
 | str {t} {s:ByteArray} (hu:P.underlying t=some .string) (h:s.size<=maxLen):Rep P ok w t (.string s) (.str s.data.toList)
 | flt {t n} (hu:P.underlying t=some (.float .f64)):Rep P ok w t (.float .f64 n) (.flt n)
 | snil {t e} (hu:P.underlying t=some (.slice e)):Rep P ok w t (.slice none 0 0) .nil
 | bytes {t e cap} {ad:Addr} {s:List UInt8} (hu:P.underlying t=some (.slice e)) (he:P.underlying e=some (.int .u8)) (hok:0<cap->ad.spot=none/\ok ad.block) (hcap:s.length<=cap) (hmax:cap<=maxLen)
   (hc:xLA w ad.block ad.off (s.map fun x=>.int .u8 x.toNat)):Rep P ok w t (.slice (some ad) s.length cap) (.bytes s)
 | list {t e cap} {ad:Addr} {i:TypeInfo} {vs:List Value} {ds:List D} (hu:P.underlying t=some (.slice e)) (he:P.underlying e≠some (.int .u8)) (hi:P.info? e=some i) (hok:0<cap->ad.spot=none/\ok ad.block)
   (hlen:vs.length=ds.length) (hcap:ds.length<=cap) (hmax:cap<=maxLen) (hsz:∀v∈vs,v.cells.size=i.size)
   (hc:∀(j:Nat) (v:Value),vs[j]? = some v->xLA w ad.block (ad.off+j*i.size) v.cells.toList)
   (hr:∀(j:Nat) (v:Value) (d:D),vs[j]? = some v->ds[j]? = some d->Rep P ok w e v d):Rep P ok w t (.slice (some ad) ds.length cap) (.list ds)
 | row {t d} {vs:List Value} {ds:List D} (hu:P.underlying t=some d) (hd:zHA d=true) (hlen:vs.length=(tys P t).length) (hlen':ds.length=(tys P t).length)
   (h1:∀v∈vs,v.cells = #[v])
   (hr:∀(j:Nat) (u:TypeId) (v:Value) (d:D),(tys P t)[j]? = some u->vs[j]? = some v->ds[j]? = some d->Rep P ok w u v d):Rep P ok w t (.agg vs.toArray) (.row ds)
 | pnil {t e} (hu:P.underlying t=some (.pointer e)):Rep P ok w t (.pointer none) .nil
 | ptr {t e b off} {v:Value} {d:D} (hu:P.underlying t=some (.pointer e)) (hok:ok b) (hc:xLA w b off v.cells.toList) (hr:Rep P ok w e v d):Rep P ok w t (.pointer (some ⟨b,off,none⟩)) (.ptr d)
 | mnil {t k e} (hu:P.underlying t=some (.map k e)):Rep P ok w t (.map none) .nil
 | map {t k e r clock} {es:Array MapEntry} {ds:List (Int×D)} (hu:P.underlying t=some (.map k e)) (hk:P.underlying k=some (.int .u32)) (hok:ok r)
   (hh:w.heap[r]? = some (.map es clock))
   (hkeys:(es.toList.map (·.key)).Perm (ds.map fun d=>Value.int .u32 d.1))
   (hkw:∀d∈ds,(Lit.int .u32 d.1).wf=true)
   (hs:(ds.map (·.1)).Pairwise (· < ·))
   (hborn:(es.toList.map (·.born)).Nodup) (hclock:∀x∈es.toList,x.born<clock)
   (hr:∀x∈es.toList,∀n d,x.key = .int .u32 n->(n,d)∈ds->Rep P ok w e x.val d):Rep P ok w t (.map (some r)) (.map ds)
theorem Rep.mono{P:Program}{ok ok':Nat->Prop}{w w':World}{t:TypeId}{v:Value}{d:D}(h:Rep P ok w t v d)
  (hok:∀b,ok b->ok' b) (hw:∀b,ok b->w'.heap[b]? = w.heap[b]?):Rep P ok' w' t v d:=by
 induction h with
 | int hu h=>exact .int hu h
 | bool hu=>exact .bool hu
 | str hu h=>exact .str hu h
 | flt hu=>exact .flt hu
 | snil hu=>exact .snil hu
 | bytes hu he hk hcap hmax hc =>
  refine .bytes hu he (fun h=>⟨(hk h).1,hok _ (hk h).2⟩) hcap hmax (fun j v hj=>?_);have h0:=(List.getElem?_eq_some_iff.1 hj).1;rw[List.length_map] at h0;exact hc.frame (hw _ (hk (by omega)).2) j v hj
 | list hu he hi hk hlen hcap hmax hsz hc _ ih =>
  refine .list hu he hi (fun h=>⟨(hk h).1,hok _ (hk h).2⟩) hlen hcap hmax hsz (fun j v hj=>(hc j v hj).frame (hw _ (hk ?_).2)) ih;have h0:=(List.getElem?_eq_some_iff.1 hj).1;omega
 | row hu hd hlen hlen' h1 _ ih=>exact .row hu hd hlen hlen' h1 ih
 | pnil hu=>exact .pnil hu
 | ptr hu hk hc _ ih=>exact .ptr hu (hok _ hk) (hc.frame (hw _ hk)) ih
 | mnil hu=>exact .mnil hu
 | map hu hk hr hh hkeys hkw hs hborn hclock _ ih=>exact .map hu hk (hok _ hr) ((hw _ hr).trans hh) hkeys hkw hs hborn hclock ih
end Go.Dx
namespace Go.Dx
open Go
inductive Fn where
 | wrap (k:IntKind)|add (k:IntKind)|sub (k:IntKind)|mul (k:IntKind)
 | band (k:IntKind)|bor (k:IntKind)|bxor (k:IntKind)
 | shl (k:IntKind)|shr (k:IntKind)
 | tquo (k:IntKind)|tmod
 | eqI|neI|ltI|leI
 | not|ite
 | get (j:Nat)|len|isNil
 | mkrow|mklist|mkbytes|app|mkptr|deref
 | toStr|toBytes|eqS|imin|imax
 | repl
 | at|take|drop|iota|iotaS
 | setAt|setCells (off:Nat)|copy|zeros
 | ext (n:Nat)
 deriving DecidableEq
def D.asInt:D->Int
 | .int n=>n
 | _=>0
def D.asBool:D->Bool
 | .bool b=>b
 | _=>false
def D.asStr:D->List UInt8
 | .str s=>s
 | .bytes s=>s
 | _=>[]
def D.asNat:D->Nat
 | .flt n=>n
 | _=>0
def D.cells:D->List D
 | .row l=>l
 | d=>[d]
def D.rows:D->List D
 | .list l=>l
 | .bytes s=>s.map fun x=>.int x.toNat
 | _=>[]
def D.len:D->Nat
 | .list l=>l.length
 | .bytes s=>s.length
 | .str s=>s.length
 | .map l=>l.length
 | _=>0
def D.isNil:D->Bool
 | .nil=>true
 | _=>false
def D.deref:D->D
 | .ptr d=>d
 | _=>.nil
def D.appd:D->D->D
 | .nil,.nil=>.nil
 | .nil,.bytes []=>.nil
 | .nil,.str []=>.nil
 | .nil,.list []=>.nil
 | .nil,.str s=>.bytes s
 | .nil,d=>d
 | .bytes a,.bytes b=>.bytes (a++b)
 | .bytes a,.str b=>.bytes (a++b)
 | .list a,.list b=>.list (a++b)
 | d,.bytes (x::s)=>.bytes (d.asStr++x::s)
 | d,_=>d
def D.takeD(n:Nat):D->D
 | .bytes s=>.bytes (s.take n)
 | .list l=>.list (l.take n)
 | .str s=>.str (s.take n)
 | d=>d
def D.dropD(n:Nat):D->D
 | .bytes s=>.bytes (s.drop n)
 | .list l=>.list (l.drop n)
 | .str s=>.str (s.drop n)
 | d=>d
def D.copyD:D->D->D
 | .bytes a,d=>.bytes (d.asStr.take a.length++a.drop d.asStr.length)
 | a,_=>a
def D.putCells(off:Nat)(xs:List D):D->D
 | .row l=>.row (l.take off++xs++l.drop (off+xs.length))
 | d=>d
def D.setAtD:D->Nat->D->D
 | .bytes s,n,x=>.bytes (s.set n (UInt8.ofNat x.asInt.toNat))
 | .list l,n,x=>.list (l.set n x)
 | d,_,_=>d
def D.setCellsD(off:Nat):D->Nat->D->D
 | .list l,n,x=>.list (l.set n ((l.getD n .nil).putCells off x.cells))
 | d,_,_=>d
def shrI(x:Int)(y:Int)(k:IntKind):Int:=x.fdiv (2 ^ (min y.toNat k.bits))
def shlI(x:Int)(y:Int)(k:IntKind):Int:=k.wrap (x*2 ^ (min y.toNat k.bits))
def Fn.eval(X:Nat->List D->D):Fn->List D->D
 | .wrap k,[a]=>.int (k.wrap a.asInt)
 | .add k,[a,b]=>.int (k.wrap (a.asInt+b.asInt))
 | .sub k,[a,b]=>.int (k.wrap (a.asInt-b.asInt))
 | .mul k,[a,b]=>.int (k.wrap (a.asInt*b.asInt))
 | .band k,[a,b]=>.int (k.wrap (BitVec.ofInt k.bits a.asInt &&& BitVec.ofInt k.bits b.asInt).toNat)
 | .bor k,[a,b]=>.int (k.wrap (BitVec.ofInt k.bits a.asInt ||| BitVec.ofInt k.bits b.asInt).toNat)
 | .bxor k,[a,b]=>.int (k.wrap (BitVec.ofInt k.bits a.asInt ^^^ BitVec.ofInt k.bits b.asInt).toNat)
 | .shl k,[a,b]=>.int (shlI a.asInt b.asInt k)
 | .shr k,[a,b]=>.int (shrI a.asInt b.asInt k)
 | .tquo k,[a,b]=>.int (k.wrap (a.asInt.tdiv b.asInt))
 | .tmod,[a,b]=>.int (a.asInt.tmod b.asInt)
 | .eqI,[a,b]=>.bool (a.asInt==b.asInt)
 | .neI,[a,b]=>.bool (a.asInt != b.asInt)
 | .ltI,[a,b]=>.bool (decide (a.asInt<b.asInt))
 | .leI,[a,b]=>.bool (decide (a.asInt<=b.asInt))
 | .not,[a]=>.bool (!a.asBool)
 | .ite,[c,a,b]=>if c.asBool then a else b
 | .get j,[a]=>a.cells.getD j .nil
 | .len,[a]=>.int a.len
 | .isNil,[a]=>.bool a.isNil
 | .mkrow,l=>.row l
 | .mklist,l=>.list l
 | .mkbytes,l=>.bytes (l.map fun d=>UInt8.ofNat d.asInt.toNat)
 | .app,[a,b]=>a.appd b
 | .mkptr,[a]=>.ptr a
 | .deref,[a]=>a.deref
 | .toStr,[a]=>.str a.asStr
 | .toBytes,[a]=>.bytes a.asStr
 | .eqS,[a,b]=>.bool (a.asStr==b.asStr)
 | .imin,[a,b]=>.int (if b.asInt<a.asInt then b.asInt else a.asInt)
 | .imax,[a,b]=>.int (if b.asInt>a.asInt then b.asInt else a.asInt)
 | .repl,[n,a]=>.list (List.replicate n.asInt.toNat a)
 | .at,[a,b]=>a.rows.getD b.asInt.toNat .nil
 | .take,[a,b]=>a.takeD b.asInt.toNat
 | .drop,[a,b]=>a.dropD b.asInt.toNat
 | .copy,[a,b]=>a.copyD b
 | .zeros,[n]=>.bytes (List.replicate n.asInt.toNat 0)
 | .setAt,[a,b,x]=>a.setAtD b.asInt.toNat x
 | .setCells off,[a,b,x]=>a.setCellsD off b.asInt.toNat x
 | .iotaS,[n]=>.list ((List.range (n.asInt.toNat+1)).map fun i=>.int (i:Nat))
 | .iota,[n]=>.list ((List.range n.asInt.toNat).map fun i=>.int (i:Nat))
 | .ext n,l=>X n l
 | _,_=>.nil
inductive DE where
 | v (i:Nat)
 | k (d:D)
 | f (n:Fn) (args:List DE)
 | fold (lv:Nat) (src:DE) (inits bodies:List DE) (j:Nat)
 | wh (lv:Nat) (go:DE) (inits bodies:List DE)
 deriving Inhabited
noncomputable def yKF(p:Nat->Prop):Nat:=Classical.epsilon fun n=>p n /\ ∀m,m<n -> ¬p m
theorem least_ex{p:Nat->Prop}:∀ {n:Nat},p n -> ∃m,p m /\ ∀k,k<m -> ¬p k:=by
 intro n
 induction n using Nat.strongRecOn with
 | ind n ih =>
  intro h;by_cases hm:∃m,m<n/\p m
  ·obtain⟨m,h1,h2⟩:=hm;exact ih m h1 h2
  ·exact⟨n,h,fun k hk e=>hm ⟨k,hk,e⟩⟩
theorem yLF{p:Nat->Prop}(h:∃n,p n):p (yKF p) /\ ∀m,m<yKF p -> ¬p m:=by
 obtain⟨n,hn⟩:=h;exact Classical.epsilon_spec (least_ex hn)
theorem qXK{p:Nat->Prop}{n:Nat}(h:p n)(hl:∀m,m<n -> ¬p m):yKF p=n:=by
 obtain⟨h1,h2⟩:=yLF ⟨n,h⟩;rcases Nat.lt_trichotomy (yKF p) n with h3|h3|h3
 ·exact absurd h1 (hl _ h3)
 ·exact h3
 ·exact absurd h (h2 _ h3)
def yWB(n:Nat):List D:=(List.range n).map fun i=>.int (i:Nat)
def yIA(step:Nat->D->List D->List D):Nat->List D->List D->List D
 | _,[],acc=>acc
 | i,r::rs,acc=>yIA step (i+1) rs (step i r acc)
mutual
noncomputable def DE.eval(X:Nat->List D->D):DE->List D->D
 | .v i,J=>J.getD i .nil
 | .k d,_=>d
 | .f n as,J=>n.eval X (zDA X as J)
 | .fold lv s is bs j,J=>(yIA (fun i r acc=>zDA X bs (J.take lv++(.int i::r::acc))) 0 (s.eval X J).rows (zDA X is J)).getD j .nil
 | .wh lv g is bs,J=>.int (yKF fun n=>(g.eval X (J.take lv++(.int n :: .int n::yIA (fun i r acc=>zDA X bs (J.take lv++(.int i::r::acc))) 0 (yWB n) (zDA X is J)))).asBool=false:Nat)
noncomputable def zDA(X:Nat->List D->D):List DE->List D->List D
 | [],_=>[]
 | a::as,J=>a.eval X J::zDA X as J
end
mutual
def D.beq:D->D->Bool
 | .int a,.int b=>a==b
 | .bool a,.bool b=>a==b
 | .str a,.str b=>a==b
 | .flt a,.flt b=>a==b
 | .nil,.nil=>true
 | .bytes a,.bytes b=>a==b
 | .list a,.list b=>beqs a b
 | .row a,.row b=>beqs a b
 | .ptr a,.ptr b=>D.beq a b
 | .map a,.map b=>beqm a b
 | _,_=>false
def beqs:List D->List D->Bool
 | [],[]=>true
 | a::as,b::bs=>D.beq a b&&beqs as bs
 | _,_=>false
def beqm:List (Int×D)->List (Int×D)->Bool
 | [],[]=>true
 | a::as,b::bs=>beqp a b&&beqm as bs
 | _,_=>false
def beqp:Int×D->Int×D->Bool
 | (a,x),(b,y)=>a==b&&D.beq x y
end
mutual
theorem D.beq_eq:∀ {a b:D},D.beq a b=true->a=b
 | .int a,b,h=>by cases b <;> simp_all [D.beq]
 | .bool a,b,h=>by cases b <;> simp_all [D.beq]
 | .str a,b,h=>by cases b <;> simp_all [D.beq]
 | .flt a,b,h=>by cases b <;> simp_all [D.beq]
 | .nil,b,h=>by cases b <;> simp_all [D.beq]
 | .bytes a,b,h=>by cases b <;> simp_all [D.beq]
 | .list a,b,h=>by
  cases b <;> simp only[D.beq,bfZ] at h
  rw[zLI h]
 | .row a,b,h=>by
  cases b <;> simp only[D.beq,bfZ] at h
  rw[zLI h]
 | .ptr a,b,h=>by
  cases b <;> simp only[D.beq,bfZ] at h
  rw[D.beq_eq h]
 | .map a,b,h=>by
  cases b <;> simp only[D.beq,bfZ] at h
  rw[xHK h]
theorem zLI:∀ {a b:List D},beqs a b=true->a=b
 | [],b,h=>by cases b <;> simp_all [beqs]
 | x::xs,b,h=>by
  cases b with
  | nil=>simp[beqs] at h
  | cons y ys =>
   simp only[beqs,baZ] at h;rw[D.beq_eq h.1,zLI h.2]
theorem xHK:∀ {a b:List (Int×D)},beqm a b=true->a=b
 | [],b,h=>by cases b <;> simp_all [beqm]
 | x::xs,b,h=>by
  cases b with
  | nil=>simp[beqm] at h
  | cons y ys =>
   simp only[beqm,baZ] at h;rw[beqp_eq h.1,xHK h.2]
theorem beqp_eq:∀ {a b:Int×D},beqp a b=true->a=b
 | (a,x),(b,y),h=>by
  simp only[beqp,baZ,beq_iff_eq] at h;rw[h.1,D.beq_eq h.2]
end
mutual
def DE.beq:DE->DE->Bool
 | .v a,.v b=>a==b
 | .k a,.k b=>D.beq a b
 | .f m as,.f n bs=>decide (m=n)&&xXB as bs
 | .fold lv s is bs j,.fold lv' s' is' bs' j'=>lv==lv'&&DE.beq s s'&&xXB is is'&&xXB bs bs'&&j==j'
 | .wh lv g is bs,.wh lv' g' is' bs'=>lv==lv'&&DE.beq g g'&&xXB is is'&&xXB bs bs'
 | _,_=>false
def xXB:List DE->List DE->Bool
 | [],[]=>true
 | a::as,b::bs=>DE.beq a b&&xXB as bs
 | _,_=>false
end
mutual
theorem DE.beq_eq:∀ {a b:DE},DE.beq a b=true->a=b
 | .v a,b,h=>by cases b <;> simp_all [DE.beq]
 | .k a,b,h=>by
  cases b <;> simp only[DE.beq,bfZ] at h
  rw[D.beq_eq h]
 | .f m as,b,h=>by
  cases b <;> simp only[DE.beq,bfZ,baZ,dtZ] at h
  rw[h.1,qJA h.2]
 | .fold lv s is bs j,b,h=>by
  cases b <;> simp only[DE.beq,bfZ,baZ,beq_iff_eq] at h
  rw[h.1.1.1.1,DE.beq_eq h.1.1.1.2,qJA h.1.1.2,qJA h.1.2,h.2]
 | .wh lv g is bs,b,h=>by
  cases b <;> simp only[DE.beq,bfZ,baZ,beq_iff_eq] at h
  rw[h.1.1.1,DE.beq_eq h.1.1.2,qJA h.1.2,qJA h.2]
theorem qJA:∀ {a b:List DE},xXB a b=true->a=b
 | [],b,h=>by cases b <;> simp_all [xXB]
 | x::xs,b,h=>by
  cases b with
  | nil=>simp[xXB] at h
  | cons y ys =>
   simp only[xXB,baZ] at h;rw[DE.beq_eq h.1,qJA h.2]
end
inductive CV where
 | nilp|nils|nilm|nilI|nilF
 | fn (f:Nat)
 | glob (g:Nat)
 deriving DecidableEq
def CV.den:CV->Value
 | .nilp=>.pointer none
 | .nils=>.slice none 0 0
 | .nilm=>.map none
 | .nilI=>.nilIface
 | .nilF=>.nilFunc
 | .fn f=>.func (.func f) #[] #[]
 | .glob g=>.pointer (some ⟨g,0,none⟩)
inductive WK where
 | clo (f:Nat)
 | ifc (t:TypeId)
 | pre (k:Nat)
 | suf (k:Nat)
 deriving DecidableEq
def WK.den(l:List Value):WK->Value
 | .clo f=>.func (.func f) #[] l.toArray
 | .ifc t=>.iface t (l.getD 0 undef)
 | .pre k =>
  match l.getD 0 undef with
  | .slice a _ c=>.slice a k c
  | _=>.slice none 0 0
 | .suf k =>
  match l.getD 0 undef with
  | .slice a n c=>.slice (if c=k then a else a.map (fun x=>x.add k)) (n-k) (c-k)
  | _=>.slice none 0 0
inductive SV where
 | i (k:IntKind) (e:DE)
 | b (e:DE)
 | s (e:DE)
 | fl (e:DE)
 | c (c:CV)
 | x (n:Nat)
 | xc (n j:Nat)
 | agg (l:List SV)
 | oa (o off:Nat)
 | osl (o n:Nat)
 | ra (n off:Nat)
 | ea (n:Nat) (e:DE) (off sz:Nat)
 | tup (l:List SV)
 | w (k:WK) (l:List SV)
 deriving Inhabited
mutual
def SV.beq:SV->SV->Bool
 | .i k e,.i k' e'=>decide (k=k')&&e.beq e'
 | .b e,.b e'=>e.beq e'
 | .s e,.s e'=>e.beq e'
 | .fl e,.fl e'=>e.beq e'
 | .c a,.c b=>decide (a=b)
 | .x n,.x m=>n==m
 | .xc n j,.xc m l=>n==m&&j==l
 | .agg l,.agg m=>yBE l m
 | .oa o k,.oa p l=>o==p&&k==l
 | .osl o n,.osl p m=>o==p&&n==m
 | .ra n k,.ra m l=>n==m&&k==l
 | .ea n e k z,.ea m f l y=>n==m&&e.beq f&&k==l&&z==y
 | .tup l,.tup m=>yBE l m
 | .w k l,.w k' m=>decide (k=k')&&yBE l m
 | _,_=>false
def yBE:List SV->List SV->Bool
 | [],[]=>true
 | a::as,b::bs=>SV.beq a b&&yBE as bs
 | _,_=>false
end
mutual
theorem SV.beq_eq:∀ {a b:SV},SV.beq a b=true->a=b
 | .i k e,b,h=>by
  cases b <;> simp only[SV.beq,bfZ,baZ,dtZ] at h
  rw[h.1,DE.beq_eq h.2]
 | .b e,b,h=>by
  cases b <;> simp only[SV.beq,bfZ] at h
  rw[DE.beq_eq h]
 | .s e,b,h=>by
  cases b <;> simp only[SV.beq,bfZ] at h
  rw[DE.beq_eq h]
 | .fl e,b,h=>by
  cases b <;> simp only[SV.beq,bfZ] at h
  rw[DE.beq_eq h]
 | .c a,b,h=>by cases b <;> simp_all [SV.beq]
 | .x n,b,h=>by cases b <;> simp_all [SV.beq]
 | .xc n j,b,h=>by cases b <;> simp_all [SV.beq]
 | .agg l,b,h=>by
  cases b <;> simp only[SV.beq,bfZ] at h
  rw[zUD h]
 | .oa o k,b,h=>by cases b <;> simp_all [SV.beq]
 | .osl o k,b,h=>by cases b <;> simp_all [SV.beq]
 | .ra n k,b,h=>by cases b <;> simp_all [SV.beq]
 | .ea n e k z,b,h=>by
  cases b <;> simp only[SV.beq,bfZ,baZ,beq_iff_eq] at h
  rw[h.1.1.1,DE.beq_eq h.1.1.2,h.1.2,h.2]
 | .tup l,b,h=>by
  cases b <;> simp only[SV.beq,bfZ] at h
  rw[zUD h]
 | .w k l,b,h=>by
  cases b <;> simp only[SV.beq,bfZ,baZ,dtZ] at h
  rw[h.1,zUD h.2]
theorem zUD:∀ {a b:List SV},yBE a b=true->a=b
 | [],b,h=>by cases b <;> simp_all [yBE]
 | x::xs,b,h=>by
  cases b with
  | nil=>simp[yBE] at h
  | cons y ys =>
   simp only[yBE,baZ] at h;rw[SV.beq_eq h.1,zUD h.2]
end
inductive VT where
 | set (t:TypeId)
 | row (t:TypeId)
 | own (t:TypeId)
 | tags (t:TypeId)
 | dead
 | gi
 deriving DecidableEq
structure VI where
 vt:VT
 de:DE
inductive Ob where
 | room (d:DE) (bytes:Nat)
 | cap (d:DE) (bytes:Nat)
 | idx (e d:DE) (strict:Bool)
 | ge0 (e:DE)
 | nz (e:DE)
 | pre (n:Nat) (args:List DE)
 | all (src:DE) (inits bodies:List DE) (obs:List Ob)
 | term (lv:Nat) (go:DE) (inits bodies:List DE)
 | when (c:DE) (b:Bool) (obs:List Ob)
structure Lp where
 row:Nat
 src:SV
 el:TypeId
 lvl:Nat
structure St where
 env:List (Nat×SV)
 vars:List (Nat×VI)
 objs:List (Nat×List SV)
 loops:List Lp
 obl:List Ob
 lvl:Nat
 nx:Nat
 nt:Nat
theorem nbeq{n m:Nat}:Nat.beq n m=(n==m):=by
 by_cases hk:n=m
 ·subst hk;simp
 ·rw[show (n==m)=false from by simpa using hk];cases h:Nat.beq n m with
  | false=>rfl
  | true=>exact absurd (Nat.eq_of_beq_eq_true h) hk
def lk{α:Type}(n:Nat)(l:List (Nat×α)):Option α :=
 @List.rec (Nat×α) (fun _=>Option α) none (fun p _ ih=>@Bool.rec (fun _=>Option α) ih (some p.2) (Nat.beq n p.1)) l
theorem xDA{α:Type}{n:Nat}:lk n ([]:List (Nat×α))=none:=rfl
theorem yLA{α:Type}{n m:Nat}{a:α}{r:List (Nat×α)}:lk n ((m,a)::r)=if n==m then some a else lk n r:=by
 show @Bool.rec (fun _=>Option α) (lk n r) (some a) (Nat.beq n m)=_;rw[nbeq];cases (n==m) <;> rfl
def del{α:Type}(n:Nat)(l:List (Nat×α)):List (Nat×α) :=
 @List.rec (Nat×α) (fun _=>List (Nat×α)) [] (fun p _ ih=>@Bool.rec (fun _=>List (Nat×α)) (p::ih) ih (Nat.beq n p.1)) l
theorem del_nil{α:Type}{n:Nat}:del n ([]:List (Nat×α))=[]:=rfl
theorem qOE{α:Type}{n m:Nat}{a:α}{r:List (Nat×α)}:del n ((m,a)::r)=if n==m then del n r else (m,a)::del n r:=by
 show @Bool.rec (fun _=>List (Nat×α)) ((m,a)::del n r) (del n r) (Nat.beq n m)=_;rw[nbeq];cases (n==m) <;> rfl
def upd{α:Type}(n:Nat)(a:α)(l:List (Nat×α)):List (Nat×α):=(n,a)::del n l
end Go.Dx
namespace Go.Dx
open Go
mutual
def SV.men(n:Nat):SV->Bool
 | .x m=>n==m
 | .xc m _=>n==m
 | .agg l=>mens n l
 | .ra m _=>n==m
 | .ea m _ _ _=>n==m
 | .tup l=>mens n l
 | .w _ l=>mens n l
 | _=>false
def mens(n:Nat):List SV->Bool
 | []=>false
 | a::as=>SV.men n a || mens n as
end
mutual
def SV.meno(n:Nat):SV->Bool
 | .oa m _=>n==m
 | .osl m _=>n==m
 | .agg l=>ySF n l
 | .tup l=>ySF n l
 | .w _ l=>ySF n l
 | _=>false
def ySF(n:Nat):List SV->Bool
 | []=>false
 | a::as=>SV.meno n a || ySF n as
end
def St.freshV(st:St)(n:Nat):Bool :=
 (lk n st.vars).isNone&&st.env.all (fun p=>!p.2.men n)&&st.objs.all (fun p=>!mens n p.2)&&st.loops.all (fun l=>!(l.row==n) && !l.src.men n)
def St.freshO(st:St)(n:Nat):Bool :=
 (lk n st.objs).isNone&&st.env.all (fun p=>!p.2.meno n)&&st.objs.all (fun p=>!ySF n p.2)&&st.loops.all (fun l=>!l.src.meno n)
def qSB:TypeDesc->Bool
 | .int _ | .bool | .string | .float .f64=>true
 | _=>false
def mkf(n:Fn)(as:List DE):DE :=
 match n,as with
 | .wrap k,[.k (.int a)]=>.k (.int (k.wrap a))
 | .add k,[.k (.int a),.k (.int b)]=>.k (.int (k.wrap (a+b)))
 | .sub k,[.k (.int a),.k (.int b)]=>.k (.int (k.wrap (a-b)))
 | .eqI,[.k (.int a),.k (.int b)]=>.k (.bool (a==b))
 | .neI,[.k (.int a),.k (.int b)]=>.k (.bool (a != b))
 | .ltI,[.k (.int a),.k (.int b)]=>.k (.bool (decide (a<b)))
 | .ltI,[.k (.int a),.f .len [.k b]]=>.k (.bool (decide (a<b.len)))
 | .leI,[.k (.int a),.k (.int b)]=>.k (.bool (decide (a<=b)))
 | .not,[.k (.bool a)]=>.k (.bool (!a))
 | .isNil,[.k a]=>.k (.bool a.isNil)
 | .ite,[.k (.bool true),x,_]=>x
 | .ite,[.k (.bool false),_,x]=>x
 | .get j,[.f .mkrow l]=>l.getD j (.k .nil)
 | .get j,[.k (.row l)]=>.k (l.getD j .nil)
 | n,as=>.f n as
def xQK(P:Program)(n j:Nat)(u:TypeId)(de:DE):SV :=
 match P.underlying u with
 | some (.int k)=>.i k (mkf (.get j) [de])
 | some .bool=>.b (mkf (.get j) [de])
 | some .string=>.s (mkf (.get j) [de])
 | some (.float .f64)=>.fl (mkf (.get j) [de])
 | _=>.xc n j
def zWD(P:Program)(n:Nat)(t:TypeId)(de:DE):SV :=
 match P.underlying t with
 | some (.int k)=>.i k de
 | some .bool=>.b de
 | some .string=>.s de
 | some (.float .f64)=>.fl de
 | _=>.x n
def yME:Value->Option SV
 | .int k n=>if (Lit.int k n).wf then some (.i k (.k (.int n))) else none
 | .bool b=>some (.b (.k (.bool b)))
 | .string s=>if s.size<=1000000 then some (.s (.k (.str s.data.toList))) else none
 | .float .f64 n=>some (.fl (.k (.flt n)))
 | .pointer none=>some (.c .nilp)
 | .slice none 0 0=>some (.c .nils)
 | .map none=>some (.c .nilm)
 | .nilIface=>some (.c .nilI)
 | .nilFunc=>some (.c .nilF)
 | _=>none
def xRE:List Value->Option (List SV)
 | []=>some []
 | v::vs=>do
  let a <- yME v
  let as <- xRE vs
  some (a::as)
def xRK:Value->Option SV
 | .agg cs=>(xRE cs.toList).map .agg
 | v=>yME v
def opd(st:St):Operand->Option SV
 | .tmp t=>lk t st.env
 | .const v=>xRK v
 | .global g=>some (.c (.glob g))
 | .func f=>some (.c (.fn f))
def opds(st:St):List Operand->Option (List SV)
 | []=>some []
 | o::os=>do
  let a <- opd st o
  let as <- opds st os
  some (a::as)
def yQD(n:Nat):Nat->List SV->Bool
 | _,[]=>true
 | j,.xc m l::r=>m==n&&l==j&&yQD n (j+1) r
 | _,_=>false
def VT.rest:VT->Option TypeId
 | .set t=>some t
 | .row t=>some t
 | _=>none
def norm(P:Program)(st:St):SV->SV
 | .xc n j =>
  match lk n st.vars with
  | some vi =>
   match vi.vt.rest with
   | some u =>
    match (tys P u)[j]? with
    | some ct=>xQK P n j ct vi.de
    | none=>.xc n j
   | none=>.xc n j
  | none=>.xc n j
 | s=>s
mutual
def svT(P:Program)(st:St)(t:TypeId):SV->Option DE
 | .i k e =>
  match P.underlying t with
  | some (.int k')=>if k=k' then some e else none
  | _=>none
 | .b e =>
  match P.underlying t with
  | some .bool=>some e
  | _=>none
 | .s e =>
  match P.underlying t with
  | some .string=>some e
  | _=>none
 | .fl e =>
  match P.underlying t with
  | some (.float .f64)=>some e
  | _=>none
 | .c .nilp =>
  match P.underlying t with
  | some (.pointer _)=>some (.k .nil)
  | _=>none
 | .c .nils =>
  match P.underlying t with
  | some (.slice _)=>some (.k .nil)
  | _=>none
 | .c .nilm =>
  match P.underlying t with
  | some (.map _ _)=>some (.k .nil)
  | _=>none
 | .x n =>
  match lk n st.vars with
  | some vi=>if vi.vt.rest=some t then some vi.de else none
  | none=>none
 | .xc n j =>
  match lk n st.vars with
  | some vi =>
   match vi.vt.rest with
   | some u=>if (tys P u)[j]? = some t then some (mkf (.get j) [vi.de]) else none
   | none=>none
  | none=>none
 | .agg l =>
  match P.underlying t with
  | some d=>if zHA d then (svTs P st (tys P t) l).map (mkf .mkrow) else none
  | none=>none
 | _=>none
def svTs(P:Program)(st:St):List TypeId->List SV->Option (List DE)
 | [],[]=>some []
 | t::ts,a::as =>
  match P.underlying t with
  | some dt =>
   if zHA dt then none else
   match svT P st t a,svTs P st ts as with
   | some d,some ds=>some (d::ds)
   | _,_=>none
  | none=>none
 | _,_=>none
end
inductive Kd where
 | sl|pt|mp|sr
 deriving DecidableEq
def kdOf:TypeDesc->Option Kd
 | .slice _=>some .sl
 | .pointer _=>some .pt
 | .map _ _=>some .mp
 | .string=>some .sr
 | _=>none
def kdT(P:Program)(t:TypeId):Option Kd:=(P.underlying t).bind kdOf
def xSE(P:Program)(st:St):SV->Option (Kd×DE)
 | .c .nils=>some (.sl,.k .nil)
 | .c .nilm=>some (.mp,.k .nil)
 | .c .nilp=>some (.pt,.k .nil)
 | .s e=>some (.sr,e)
 | .x n =>
  match lk n st.vars with
  | some ⟨.set u,de⟩=>(kdT P u).map fun k=>(k,de)
  | some ⟨.row u,de⟩=>(kdT P u).map fun k=>(k,de)
  | some ⟨.own _,de⟩=>some (.sl,de)
  | some ⟨.tags _,de⟩=>some (.mp,de)
  | _=>none
 | .xc n j =>
  match lk n st.vars with
  | some vi =>
   match vi.vt.rest with
   | some u =>
    match (tys P u)[j]? with
    | some ct=>(kdT P ct).map fun k=>(k,mkf (.get j) [vi.de])
    | none=>none
   | none=>none
  | none=>none
 | _=>none
def deAny(P:Program)(st:St)(s:SV):Option DE:=(xSE P st s).map (·.2)
def settle1(st:St)(n:Nat):St :=
 match lk n st.vars with
 | some ⟨.own t,de⟩=>{ st with vars:=upd n ⟨.set t,de⟩ st.vars }
 | some ⟨.tags t,de⟩=>{ st with vars:=upd n ⟨.set t,de⟩ st.vars }
 | _=>st
mutual
def settle(st:St):SV->St
 | .x n=>settle1 st n
 | .agg l=>settles st l
 | _=>st
def settles(st:St):List SV->St
 | []=>st
 | a::as=>settles (settle st a) as
end
def oneS(P:Program)(st:St):SV->Bool
 | .agg _=>false
 | .tup _=>false
 | .x n =>
  match lk n st.vars with
  | some vi =>
   match vi.vt with
   | .set u=>match P.underlying u with|some du=>!zHA du|none=>false
   | .own _=>true
   | .tags _=>true
   | _=>false
  | none=>false
 | .xc n j =>
  match lk n st.vars with
  | some vi =>
   match vi.vt.rest with
   | some u =>
    match (tys P u)[j]? with
    | some ct=>match P.underlying ct with|some du=>!zHA du|none=>false
    | none=>false
   | none=>false
  | none=>false
 | _=>true
def flat(P:Program)(st:St)(t:TypeId)(s:SV):Option (List SV) :=
 match P.underlying t,P.info? t with
 | some d,some i =>
  if zHA d then
   match s with
   | .x n =>
    match lk n st.vars with
    | some vi =>
     if vi.vt.rest=some t/\(tys P t).length=i.size then
      if ((List.range i.size).map (SV.xc n)).all (oneS P st) then some ((List.range i.size).map (SV.xc n)) else none
     else none
    | none=>none
   | .agg l=>if l.length=i.size/\l.all (oneS P st) then some l else none
   | _=>none
  else if oneS P st s then some [s] else none
 | _,_=>none
def isArrD:TypeDesc->Bool
 | .array _ _=>true
 | _=>false
def xBD(P:Program)(st:St)(t:TypeId)(l:List SV):Option SV :=
 match P.underlying t,P.info? t with
 | some d,some i =>
  if zHA d then
   if l.length=i.size then
    match l with
    | .xc n 0::_ =>
     match lk n st.vars with
     | some vi=>if vi.vt.rest=some t/\(tys P t).length=i.size/\yQD n 0 l=true/\isArrD d=false then some (.x n) else some (.agg l)
     | none=>some (.agg l)
    | _=>some (.agg l)
   else none
  else
   match l with
   | [s]=>some (norm P st s)
   | _=>none
 | _,_=>none
def qVD(P:Program)(t:TypeId):Option Nat :=
 match P.underlying t,P.info? t with
 | some d,some i=>if zHA d then some i.size else some 1
 | _,_=>none
def yRI(P:Program)(st:St)(t:TypeId)(a:SV):Option SV:=do
 let n <- qVD P t
 match a with
 | .oa o off =>
  let cs <- lk o st.objs
  xBD P st t ((cs.drop off).take n)
 | .ra m off =>
  match lk m st.vars with
  | some ⟨.row u,_⟩ =>
   if off+n<=(tys P u).length then xBD P st t ((List.range n).map fun j=>.xc m (off+j)) else none
  | _=>none
 | .c (.glob _)=>if n=0 then xBD P st t [] else none
 | _=>none
def xNL(P:Program)(st:St)(t:TypeId)(a v:SV):Option St:=do
 let l <- flat P st t v
 let i <- P.info? t
 if l.length≠i.size then none
 match a with
 | .oa o off =>
  let cs <- lk o st.objs
  if off+l.length<=cs.length then some { st with objs:=upd o (cs.take off++l++cs.drop (off+l.length)) st.objs } else none
 | _=>none
def newO(st:St)(cells:List SV)(n:Nat):Option St :=
 if st.freshO n && !ySF n cells then some { st with objs:=(n,cells)::st.objs } else none
def newV(st:St)(vi:VI)(n:Nat):Option St :=
 if st.freshV n then some { st with vars:=(n,vi)::st.vars } else none
def qME(P:Program)(t:TypeId):Option (List SV):=do
 let i <- P.info? t
 let z <- i.zero
 let l <- xRE z.cells.toList
 if l.length=i.size then some l else none
def zAE(P:Program)(s:TypeId)(f:Nat):Option (Nat×TypeId):=do
 match P.underlying s with
 | some (.struct fs) =>
  let fd <- fs[f]?
  let i <- P.info? fd.type
  if i.size=0 then none else some (fd.offset,fd.type)
 | _=>none
def xTG(P:Program)(st:St)(place:Nat->Option (Nat×TypeId)):List SV->List (Nat×SV)->Option (List SV)
 | cs,[]=>some cs
 | cs,(i,v)::r=>do
  let (off,t) <- place i
  let l <- flat P st t v
  let ti <- P.info? t
  if l.length=ti.size/\off+l.length<=cs.length then xTG P st place (cs.take off++l++cs.drop (off+l.length)) r else none
def yOG(st:St):List (Nat×Operand)->Option (List (Nat×SV))
 | []=>some []
 | (i,o)::r=>do
  let a <- opd st o
  let as <- yOG st r
  some ((i,a)::as)
def isU8(P:Program)(e:TypeId):Bool :=
 match P.underlying e with
 | some (.int .u8)=>true
 | _=>false
def xTI(P:Program)(st:St)(e:TypeId)(size:Nat):Nat->List SV->Option (List DE)
 | 0,[]=>some []
 | 0,_=>none
 | n+1,cs=>do
  let v <- xBD P st e (cs.take size)
  let d <- svT P st e v
  let ds <- xTI P st e size n (cs.drop size)
  some (d::ds)
inductive AK where
 | val (t:TypeId)
 | own (t:TypeId)
 | mcell (t m:TypeId)
 | wcell (t m:TypeId)
 | rd (t:TypeId) (m:Bool)
 | ccell (gs:List Nat) (off:Nat) (t:TypeId)
 deriving DecidableEq
inductive RK where
 | val (t:TypeId)
 | own (t:TypeId)
 | cell (m:TypeId)
 | unit
 | rd (t:TypeId) (m:Bool)
 | valK (t:TypeId) (k:Int)
 | valT (t:TypeId)
 | ownT (t:TypeId)
 | ccell (t:TypeId)
 deriving DecidableEq
structure Ctr where
 args:List AK
 res:RK
 fn:Nat
 pre:Bool
inductive Pl where
 | slot (s:Nat)
 | cell (o j:Nat)
inductive HK where
 | int (k:IntKind)
 | bool
 | var (vt:VT)
abbrev Hint:=List (Pl×HK)×Nat
def lookH:List (Nat×Nat×Nat×Hint)->Nat->Nat->Nat->Option Hint
 | [],_,_,_=>none
 | (a,b,c,r)::l,x,y,z=>if a==x&&b==y&&c==z then some r else lookH l x y z
structure Cfg where
 P:Program
 ctr:FuncId->Option Ctr
 hint:Nat->Nat->Nat->Option Hint
def zBC(P:Program)(t:TypeId):Bool :=
 match P.underlying t with
 | some (.slice e)=>(P.info? e).isSome
 | _=>false
def qGG(P:Program)(t:TypeId):Bool :=
 match P.underlying t with
 | some (.map _ _)=>true
 | _=>false
def yOF(P:Program)(st:St)(m:TypeId):SV->Option DE
 | .c .nilm=>if qGG P m then some (.k .nil) else none
 | .x n =>
  match lk n st.vars with
  | some ⟨.tags u,de⟩=>if u=m then some de else none
  | some ⟨.set u,de⟩=>if u=m/\qGG P m then some de else none
  | _=>none
 | .xc n j =>
  match lk n st.vars with
  | some ⟨vt,de⟩ =>
   match vt.rest with
   | some u=>if (tys P u)[j]? = some m/\qGG P m then some (mkf (.get j) [de]) else none
   | none=>none
  | none=>none
 | _=>none
def rdSD(m:Bool)(d:D):D:=if m then d.cells.getD 1 .nil else d
def rdBD(m:Bool)(d:D):Bool:=m&&(d.cells.getD 2 .nil).asBool
def rdWf(m:Bool)(d:D):Prop:=m=true -> ∃b,d.cells.getD 2 .nil = .bool b
def pairE(d e:DE):DE :=
 match d,e with
 | .f (.get 1) [r],.f (.get 2) [q]=>if r.beq q then r else .f .mkrow [.k .nil,d,e]
 | _,_=>.f .mkrow [.k .nil,d,e]
def yIL(P:Program)(st:St)(t:TypeId)(m:Bool):List SV->Option DE
 | [x,.b e] =>
  match svT P st t x with
  | some d=>if m then some (pairE d e) else if e.beq (.k (.bool false)) then some d else none
  | none=>none
 | _=>none
def argD(P:Program)(st:St):AK->SV->Option DE
 | .val t,v=>svT P st t v
 | .own t,.c .nils=>if zBC P t then some (.k .nil) else none
 | .own t,.x n =>
  match lk n st.vars with
  | some ⟨.own u,de⟩=>if u=t then some de else none
  | _=>none
 | .own _,_=>none
 | .mcell _ m,.oa o off =>
  match lk o st.objs with
  | some cs =>
   match cs[off]? with
   | some c=>yOF P st m c
   | none=>none
  | none=>none
 | .mcell _ m,.ra n off =>
  match lk n st.vars with
  | some ⟨.row u,de⟩=>if (tys P u)[off]? = some m/\qGG P m then some (mkf (.get off) [de]) else none
  | _=>none
 | .mcell _ _,_=>none
 | .wcell _ m,.oa o off =>
  match lk o st.objs with
  | some cs =>
   match cs[off]? with
   | some (.c .nilm)=>if qGG P m then some (.k .nil) else none
   | some (.x n) =>
    match lk n st.vars with
    | some ⟨.tags u,de⟩=>if u=m then some de else none
    | _=>none
   | _=>none
  | none=>none
 | .wcell _ _,_=>none
 | .rd t m,.oa o off =>
  match lk o st.objs with
  | some cs=>if off=0/\zBC P t=true then yIL P st t m cs else none
  | none=>none
 | .rd _ _,_=>none
 | .ccell gs off t,.w (.clo f) [.oa o 0] =>
  match lk o st.objs with
  | some cs =>
   if gs.elem f&&cs.length==off+1 then
    match cs[off]? with
    | some (.c .nils)=>if zBC P t then some (.k .nil) else none
    | some (.x n) =>
     match lk n st.vars with
     | some ⟨.own u,de⟩=>if u=t then some de else none
     | _=>none
    | _=>none
   else none
  | none=>none
 | .ccell _ _ _,_=>none
def yWC(P:Program)(st:St):List AK->List SV->Option (List DE)
 | [],[]=>some []
 | k::ks,v::vs =>
  match argD P st k v,yWC P st ks vs with
  | some d,some ds=>some (d::ds)
  | _,_=>none
 | _,_=>none
def qPD:List AK->List SV->List SV
 | .val _::ks,v::vs=>v::qPD ks vs
 | _::ks,_::vs=>qPD ks vs
 | _,_=>[]
def xAA:List AK->List SV->List (AK×SV)
 | .own t::ks,v::vs=>(.own t,v)::xAA ks vs
 | .wcell t m::ks,v::vs=>(.wcell t m,v)::xAA ks vs
 | .rd t m::ks,v::vs=>(.rd t m,v)::xAA ks vs
 | .ccell gs off t::ks,v::vs=>(.ccell gs off t,v)::xAA ks vs
 | _::ks,_::vs=>xAA ks vs
 | _,_=>[]
def noMc:List AK->Bool
 | []=>true
 | .mcell _ _::_=>false
 | _::ks=>noMc ks
def yVI(o:Nat):List AK->List SV->Bool
 | .mcell _ _::ks,.oa p _::vs=>!(p==o)&&yVI o ks vs
 | _::ks,_::vs=>yVI o ks vs
 | _,_=>true
def qXJ(st:St)(n:Nat):St :=
 match lk n st.vars with
 | some vi=>{ st with vars:=upd n ⟨.dead,vi.de⟩ st.vars }
 | none=>st
def xAF(st:St):SV->St
 | .x m=>qXJ st m
 | _=>st
def zJC(st:St):Option SV->St
 | some (.x k)=>qXJ st k
 | _=>st
def xIF(st:St):List AK->List SV->List SV
 | .rd _ _::ks,.oa o _::vs=>(match lk o st.objs with|some (x::_)=>[x]|_=>[])++xIF st ks vs
 | _::ks,_::vs=>xIF st ks vs
 | _,_=>[]
def apart:Nat:=100000000000000000000000000000000000000000000000000
def yJL(P:Program)(t:TypeId)(de:DE)(n:Nat)(st:St):Option (SV×St) :=
 match P.underlying t with
 | some d =>
  if qSB d then some (zWD P n t de,st) else
  match newV st ⟨.set t,de⟩ (n+apart) with
  | some st'=>some (.x (n+apart),st')
  | none=>none
 | none=>none
def badE(m:Bool)(de:DE):DE:=if m then .f (.get 2) [de] else .k (.bool false)
def callS(C:Cfg)(c:Ctr)(args:List SV)(n:Nat)(st0:St):Option (SV×St) :=
 let st:=settles st0 (qPD c.args args++xIF st0 c.args args)
 match yWC C.P st c.args args with
 | none=>none
 | some ds =>
  let st1:St:=if c.pre then { st with obl:=.pre c.fn ds::st.obl } else st
  let de:=DE.f (.ext c.fn) ds
  match xAA c.args args with
  | [] =>
   match c.res with
   | .val t =>
    match C.P.underlying t with
    | some d =>
     if qSB d then some (zWD C.P n t de,st1) else
     match newV st1 ⟨.set t,de⟩ n with
     | some st2=>some (.x n,st2)
     | none=>none
    | none=>none
   | .own t =>
    match newV st1 ⟨.own t,de⟩ n with
    | some st2=>some (.x n,st2)
    | none=>none
   | .cell _=>none
   | .unit=>some (.tup [],st1)
   | .rd _ _=>none
   | .valK t k =>
    match C.P.underlying t with
    | some (.int kd)=>some (.i kd (.k (.int k)),st1)
    | _=>none
   | .valT t =>
    match newV st1 ⟨.set t,de⟩ n with
    | some st2=>some (.tup [.x n,.b (.k (.bool true))],st2)
    | none=>none
   | .ownT t =>
    match newV st1 ⟨.own t,de⟩ n with
    | some st2=>some (.tup [.x n,.b (.k (.bool true))],st2)
    | none=>none
   | .ccell _=>none
  | [(.own _,v)] =>
   match c.res with
   | .own t =>
    match newV (xAF st1 v) ⟨.own t,de⟩ n with
    | some st3=>some (.x n,st3)
    | none=>none
   | _=>none
  | [(.wcell _ m,.oa o off)] =>
   match lk o st1.objs with
   | some cs =>
    match c.res with
    | .cell m' =>
     if m=m'/\noMc c.args=true then
      match newV (zJC st1 cs[off]?) ⟨.tags m,de⟩ n with
      | some st3=>some (.tup [],{ st3 with objs:=upd o (cs.set off (.x n)) st3.objs })
      | none=>none
     else none
    | _=>none
   | none=>none
  | [(.ccell _ off t,.w (.clo _) [.oa o 0])] =>
   match lk o st1.objs with
   | some cs =>
    match c.res with
    | .ccell t' =>
     if t=t'/\yVI o c.args args=true then
      match newV (zJC st1 cs[off]?) ⟨.own t,de⟩ n with
      | some st3=>some (.tup [],{ st3 with objs:=upd o (cs.set off (.x n)) st3.objs })
      | none=>none
     else none
    | _=>none
   | none=>none
  | [(.rd tb m,.oa o _)] =>
   match c.res with
   | .rd t m' =>
    if noMc c.args=true/\m=m' then
     match newV st1 ⟨.set tb,.f (.get 1) [de]⟩ n with
     | some st2=>yJL C.P t (.f (.get 0) [de]) n { st2 with objs:=upd o [.x n,.b (badE m de)] st2.objs }
     | none=>none
    else none
   | _=>none
  | _=>none
end Go.Dx
namespace Go.Dx
open Go
mutual
def Ob.beq:Ob->Ob->Bool
 | .room d n,.room e m=>d.beq e&&n==m
 | .cap d n,.cap e m=>d.beq e&&n==m
 | .nz d,.nz e=>d.beq e
 | .ge0 d,.ge0 e=>d.beq e
 | .idx d e b,.idx d' e' b'=>d.beq d'&&e.beq e'&&b==b'
 | .pre n l,.pre m k=>n==m&&xXB l k
 | .term lv g i b,.term lv' g' i' b'=>lv==lv'&&g.beq g'&&xXB i i'&&xXB b b'
 | .all s i b o,.all s' i' b' o'=>s.beq s'&&xXB i i'&&xXB b b'&&qAC o o'
 | .when c b o,.when c' b' o'=>c.beq c'&&b==b'&&qAC o o'
 | _,_=>false
def qAC:List Ob->List Ob->Bool
 | [],[]=>true
 | a::as,b::bs=>Ob.beq a b&&qAC as bs
 | _,_=>false
end
def cvKd:CV->Option Kd
 | .nilp=>some .pt
 | .nils=>some .sl
 | .nilm=>some .mp
 | _=>none
def nilS(P:Program)(st:St)(t:TypeId)(op:BinOp)(x:SV)(c:CV):Option SV :=
 match cvKd c with
 | none=>none
 | some kd =>
  if kdT P t=some kd then
   match x with
   | .oa _ _ =>
    if kd = .pt then
     match op with
     | .eql=>some (.b (.k (.bool false)))
     | .neq=>some (.b (.k (.bool true)))
     | _=>none
    else none
   | x =>
    match xSE P st x with
    | some (kd',d) =>
     if kd=kd' then
      match op with
      | .eql=>some (.b (mkf .isNil [d]))
      | .neq=>some (.b (mkf .not [mkf .isNil [d]]))
      | _=>none
     else none
    | none=>none
  else none
def nilI(P:Program)(t:TypeId)(op:BinOp)(a:SV)(y:Operand):Option SV :=
 match a,y,P.underlying t with
 | .c .nilI,.const .nilIface,some (.interface _) =>
  match op with
  | .eql=>some (.b (.k (.bool true)))
  | .neq=>some (.b (.k (.bool false)))
  | _=>none
 | _,_,_=>none
def nilG(P:Program)(st:St)(t:TypeId)(op:BinOp)(a:SV)(y:Operand):Option SV :=
 match a,y,P.underlying t with
 | .x m,.const .nilIface,some (.interface _) =>
  match lk m st.vars with
  | some ⟨.gi,d⟩ =>
   match op with
   | .eql=>some (.b (mkf .not [d]))
   | .neq=>some (.b d)
   | _=>none
  | _=>none
 | _,_,_=>none
def binS(P:Program)(st:St)(t:TypeId)(op:BinOp)(x y:SV):Option SV :=
 match x,y with
 | .i k a,.i k' b =>
  match op with
  | .shl=>match b with
   | .k (.int n)=>if 0<=n then some (.i k (mkf (.shl k) [a,b])) else none
   | _=>none
  | .shr=>match b with
   | .k (.int n)=>if 0<=n then some (.i k (mkf (.shr k) [a,b])) else none
   | _=>none
  | op =>
   if k=k' then
    match op with
    | .add=>some (.i k (mkf (.add k) [a,b]))
    | .sub=>some (.i k (mkf (.sub k) [a,b]))
    | .mul=>some (.i k (mkf (.mul k) [a,b]))
    | .and=>some (.i k (mkf (.band k) [a,b]))
    | .or=>some (.i k (mkf (.bor k) [a,b]))
    | .xor=>some (.i k (mkf (.bxor k) [a,b]))
    | .eql=>some (.b (mkf .eqI [a,b]))
    | .neq=>some (.b (mkf .neI [a,b]))
    | .lss=>some (.b (mkf .ltI [a,b]))
    | .leq=>some (.b (mkf .leI [a,b]))
    | .gtr=>some (.b (mkf .ltI [b,a]))
    | .geq=>some (.b (mkf .leI [b,a]))
    | .rem=>match b with
     | .k (.int n)=>if n=0 then none else some (.i k (mkf .tmod [a,b]))
     | _=>none
    | .quo=>match b with
     | .k (.int n)=>if n=0 then none else some (.i k (mkf (.tquo k) [a,b]))
     | _=>none
    | _=>none
   else none
 | .s a,.s b =>
  match op with
  | .eql=>some (.b (mkf .eqS [a,b]))
  | .neq=>some (.b (mkf .not [mkf .eqS [a,b]]))
  | _=>none
 | .b a,.b b =>
  match P.underlying t,op with
  | some .bool,.eql=>some (.b (mkf .ite [a,b,mkf .not [b]]))
  | some .bool,.neq=>some (.b (mkf .ite [a,mkf .not [b],b]))
  | _,_=>none
 | x,.c c=>nilS P st t op x c
 | _,_=>none
def zQI(P:Program)(st:St)(t:TypeId)(x:SV):Option DE :=
 match svT P st t x with
 | some d=>some d
 | none =>
  match x with
  | .x n=>match lk n st.vars with
   | some ⟨.own u,de⟩=>if u=t then some de else none
   | _=>none
  | _=>none
def convS(P:Program)(st:St)(n:Nat)(src dst:TypeId)(x:SV):Option (SV×St) :=
 match P.underlying src,P.underlying dst,x with
 | some (.int _),some (.int k),.i _ e=>some (.i k (mkf (.wrap k) [e]),st)
 | some (.slice e),some .string,x =>
  match P.underlying e,zQI P st src x with
  | some (.int .u8),some d=>some (.s (mkf .toStr [d]),st)
  | _,_=>none
 | some .string,some (.slice e),.s d =>
  match P.underlying e with
  | some (.int .u8)=>do
   let st' <- newV st ⟨.set dst,mkf .toBytes [d]⟩ n
   some (.x n,st')
  | _=>none
 | _,_,_=>none
def xCD(P:Program)(e:TypeId)(i:TypeInfo):Bool :=
 match i.zero with
 | some z=>z.cells.size==i.size&&decide (0<i.size)&&(!isU8 P e || i.size==1)
 | none=>false
def qND(st:St)(t:TypeId):SV->Option (DE×St)
 | .c .nils=>some (.k .nil,st)
 | .x m =>
  match lk m st.vars with
  | some ⟨.own v,de⟩=>if v=t then some (de,{ st with vars:=upd m ⟨.dead,de⟩ st.vars }) else none
  | _=>none
 | _=>none
def addOb(st:St)(o:Ob):St:={ st with obl:=o::st.obl }
def appS(P:Program)(st:St)(n:Nat)(t u:TypeId)(s x:SV):Option (SV×St):=do
 match P.underlying t with
 | some (.slice e)=>do
  let i <- P.info? e
  if u=t then
   if xCD P e i then do
    let st1:=settle st x
    let d2 <- svT P st1 t x
    let (d,st2) <- qND st1 t s
    let de:=mkf .app [d,d2]
    let st3 <- newV (addOb st2 (.room de i.bytes)) ⟨.own t,de⟩ n
    some (.x n,st3)
   else none
  else
   match P.underlying u,x,i.zero,P.underlying e with
   | some .string,.s d2,some (.int .u8 0),some (.int .u8) =>
    if i.size=1/\i.bytes=1 then do
     let (d,st2) <- qND st t s
     let de:=mkf .app [d,d2]
     let st3 <- newV (addOb st2 (.room de 1)) ⟨.own t,de⟩ n
     some (.x n,st3)
    else none
   | _,_,_,_=>none
 | _=>none
def zOI(P:Program)(st:St)(n:Nat)(t:TypeId)(len:Nat)(parts:List (Nat×SV)):Option (SV×St):=do
 match P.underlying t with
 | some (.slice e)=>do
  let i <- P.info? e
  if xCD P e i/\len<=1000/\len*i.size<=16777216 then do
   let z <- qME P e
   let st1:=settles st (parts.map (·.2))
   let cells <- xTG P st1 (fun j=>if j<len then some (j*i.size,e) else none) (List.flatten (List.replicate len z)) parts
   let ds <- xTI P st1 e i.size len cells
   let de:=if isU8 P e then mkf .mkbytes ds else mkf .mklist ds
   let st2 <- newV st1 ⟨.own t,de⟩ n
   some (.x n,st2)
  else none
 | _=>none
def zNI(P:Program)(st:St)(n:Nat)(t:TypeId)(len:Nat)(parts:List (Nat×SV)):Option (SV×St) :=
 match P.underlying t with
 | some (.slice e) =>
  match P.info? e,qME P e with
  | some i,some z =>
   if xCD P e i/\0<len/\len<=64/\len*i.size<=16777216 then
    match xTG P st (fun j=>if j<len then some (j*i.size,e) else none) (List.flatten (List.replicate len z)) parts with
    | some cells =>
     match newO st cells n with
     | some st'=>some (.osl n len,st')
     | none=>none
    | none=>none
   else none
  | _,_=>none
 | _=>none
def zMI(P:Program)(st:St)(n:Nat)(t:TypeId)(len:Nat)(parts:List (Nat×SV)):Option (SV×St) :=
 match zOI P st n t len parts with
 | some r=>some r
 | none=>zNI P st n t len parts
mutual
def DE.toD:DE->Option D
 | .k d=>some d
 | .f .mkrow as=>(toDs as).map .row
 | _=>none
def toDs:List DE->Option (List D)
 | []=>some []
 | a::as =>
  match a.toD,toDs as with
  | some d,some ds=>some (d::ds)
  | _,_=>none
end
def qQB(lv:Nat):St:={ env:=[],vars:=[],objs:=[],loops:=[],obl:=[],lvl:=lv,nx:=0,nt:=0 }
def zeroD(P:Program)(e:TypeId):Option D :=
 match qME P e with
 | some z =>
  match xBD P (qQB 0) e z with
  | some v =>
   match svT P (qQB 0) e v with
   | some d=>d.toD
   | none=>none
  | none=>none
 | none=>none
def mkslS(P:Program)(st:St)(n:Nat)(t:TypeId)(l c:SV):Option (SV×St):=do
 match P.underlying t with
 | some (.slice e)=>do
  let i <- P.info? e
  if xCD P e i then
   match l,c with
   | .i .i64 f,.i .i64 d =>
    if f.beq (.k (.int 0)) then
     match newV (addOb st (.cap d i.bytes)) ⟨.own t,if isU8 P e then DE.k (.bytes []) else DE.k (.list [])⟩ n with
     | some st1=>some (.x n,st1)
     | none=>none
    else if f.beq d then
     match zeroD P e with
     | some z =>
      if !isU8 P e || z.beq (.int 0) then
       match newV (addOb st (.cap d i.bytes)) ⟨.own t,if isU8 P e then .f .zeros [d] else .f .repl [d,.k z]⟩ n with
       | some st1=>some (.x n,st1)
       | none=>none
      else none
     | none=>none
    else none
   | _,_=>none
  else none
 | _=>none
def mkslO(P:Program)(st:St)(n:Nat)(t:TypeId)(l c:SV):Option (SV×St) :=
 match P.underlying t,l,c with
 | some (.slice e),.i .i64 (.k (.int a)),.i .i64 (.k (.int b)) =>
  match P.info? e,qME P e with
  | some i,some z =>
   if a=b/\0<a/\a<=64/\isU8 P e=false/\i.bytes<=1000000/\0<i.size then
    match newO st (List.flatten (List.replicate a.toNat z)) n with
    | some st'=>some (.osl n a.toNat,st')
    | none=>none
   else none
  | _,_=>none
 | _,_,_=>none
def mkslA(P:Program)(st:St)(n:Nat)(t:TypeId)(l c:SV):Option (SV×St) :=
 match mkslO P st n t l c with
 | some r=>some r
 | none=>mkslS P st n t l c
def appZ(P:Program)(st:St)(n:Nat)(t u:TypeId)(s x:SV):Option (SV×St) :=
 match P.underlying t,P.underlying u,s,x with
 | some (.slice e),some (.int _),.c .nils,.i _ d =>
  match P.info? e,zeroD P e with
  | some i,some z =>
   if xCD P e i && !isU8 P e then
    match newV (addOb st (.cap d i.bytes)) ⟨.own t,.f .app [.k .nil,.f .repl [d,.k z]]⟩ n with
    | some st'=>some (.x n,st')
    | none=>none
   else none
  | _,_=>none
 | _,_,_,_=>none
def appZ2(P:Program)(st:St)(n:Nat)(t u:TypeId)(s x:SV):Option (SV×St) :=
 match s with
 | .x m =>
  match lk m st.vars with
  | some ⟨.own t',d0⟩ =>
   if t'=t then
    match appZ P st n t u (.c .nils) x with
    | some (r,st')=>some (r,addOb st' (.when (.f .isNil [d0]) false [.nz (.k (.int 0))]))
    | none=>none
   else none
  | _=>none
 | _=>none
def appW(P:Program)(st:St)(t u:TypeId)(s x:SV):Option (SV×St) :=
 match s with
 | .w (.pre 0) [.x m] =>
  match lk m (settle st x).vars,P.underlying t with
  | some ⟨.own t',d⟩,some (.slice e) =>
   if t=t'/\t=u/\isU8 P e=true/\(P.info? e).map (·.size)=some 1 then
    match svT P (settle st x) t x with
    | some (.f .mkbytes l) =>
     if 0<l.length/\l.length<=1000 then
      some (.w (.pre l.length) [.x m],{ addOb (settle st x) (.idx (.k (.int (l.length:Nat))) d false) with vars:=upd m ⟨.own t,.f .copy [d,.f .mkbytes l]⟩ (settle st x).vars })
     else none
    | _=>none
   else none
  | _,_=>none
 | _=>none
def appA(P:Program)(st:St)(n:Nat)(t u:TypeId)(s x:SV):Option (SV×St) :=
 match appS P st n t u s x with
 | some r=>some r
 | none =>
  match appZ P st n t u s x with
  | some r=>some r
  | none=>appZ2 P st n t u s x
def appB(P:Program)(st:St)(n:Nat)(t u:TypeId)(s x:SV):Option (SV×St) :=
 match appA P st n t u s x with
 | some r=>some r
 | none=>appW P st t u s x
def idxS(P:Program)(st:St)(t:TypeId)(x ix:SV):Option SV:=do
 match P.underlying t with
 | some (.slice e)=>do
  let i <- P.info? e
  match x,ix with
  | .osl o n,.i .i64 (.k (.int a))=>if 0<=a/\a<n then some (.oa o (a.toNat*i.size)) else none
  | x,.i .i64 (.v l)=>do
   let lp <- st.loops.find? fun lp=>lp.lvl==l
   if lp.src.beq x&&lp.el==e then some (.ra lp.row 0) else none
  | _,_=>none
 | _=>none
def idxO(P:Program)(st:St)(n:Nat)(t:TypeId)(x ix:SV):Option (SV×St) :=
 match P.underlying t,svT P st t x,ix with
 | some (.slice e),some d,.i _ k =>
  match P.info? e with
  | some i =>
   if !isU8 P e || i.size==1 then
    match newV (addOb st (.idx k d true)) ⟨.row e,mkf .at [d,k]⟩ n with
    | some st'=>some (.ra n 0,st')
    | none=>none
   else none
  | none=>none
 | _,_,_=>none
def slS(P:Program)(st:St)(n:Nat)(t:TypeId)(x:SV)(lo hi mx:Option SV):Option (SV×St) :=
 match P.underlying t with
 | some (.slice e) =>
  match svT P (settle st x) t x,P.info? e with
  | some d,some i =>
   if !isU8 P e || i.size==1 then
    match lo,hi,mx with
    | none,some (.i .i64 k),none =>
     match newV (addOb (settle st x) (.idx k d false)) ⟨.set t,mkf .take [d,k]⟩ n with
     | some st'=>some (.x n,st')
     | none=>none
    | some (.i .i64 k),none,none =>
     match newV (addOb (settle st x) (.idx k d false)) ⟨.set t,mkf .drop [d,k]⟩ n with
     | some st'=>some (.x n,st')
     | none=>none
    | none,some (.i .i64 k),some (.i .i64 k') =>
     if k.beq k' then
      match newV (addOb (settle st x) (.idx k d false)) ⟨.set t,mkf .take [d,k]⟩ n with
      | some st'=>some (.x n,st')
      | none=>none
     else none
    | _,_,_=>none
   else none
  | _,_=>none
 | _=>none
def slZ(P:Program)(st:St)(n:Nat)(t:TypeId)(x:SV):Option (SV×St) :=
 match P.underlying t with
 | some (.slice e) =>
  match P.info? e with
  | some i =>
   match svT P st t x with
   | some d=>if d.beq (.k .nil) then some (.c .nils,st) else some (.c .nils,addOb st (.when (.f .not [.f .isNil [d]]) true [.nz (.k (.int 0))]))
   | none =>
    match qND st t x with
    | some (d,st1) =>
     match newV st1 ⟨.own t,.f .take [d,.k (.int 0)]⟩ n with
     | some st2=>some (.x n,st2)
     | none=>none
    | none=>none
  | none=>none
 | _=>none
def isZ:Option SV->Bool
 | some (.i .i64 (.k (.int 0)))=>true
 | _=>false
def slO(P:Program)(t:TypeId):SV->Option SV
 | .oa o 0 =>
  match P.underlying t with
  | some (.array n e)=>if (P.info? e).isSome&&decide (0<n) then some (.osl o n) else none
  | _=>none
 | _=>none
def slA(P:Program)(st:St)(n:Nat)(t:TypeId)(x:SV)(lo hi mx:Option SV):Option (SV×St) :=
 if lo.isNone&&mx.isNone&&isZ hi then slZ P st n t x else
 if lo.isNone&&mx.isNone&&hi.isNone then
  match slO P t x with
  | some r=>some (r,st)
  | none=>none
 else slS P st n t x lo hi mx
def winSl(P:Program)(st:St)(t:TypeId)(x:SV)(lo hi mx:Option SV):Option (SV×St) :=
 match x with
 | .x m =>
  match lk m st.vars,P.underlying t with
  | some ⟨.own u,d⟩,some (.slice e) =>
   if u=t/\isU8 P e=true/\(P.info? e).map (·.size)=some 1 then
    match lo,hi,mx with
    | none,some (.i .i64 (.k (.int 0))),none=>some (.w (.pre 0) [.x m],st)
    | some (.i .i64 (.k (.int k))),none,none=>if 0<=k then some (.w (.suf k.toNat) [.x m],addOb st (.idx (.k (.int k)) d false)) else none
    | _,_,_=>none
   else none
  | _,_=>none
 | _=>none
def slR(P:Program)(st:St)(n:Nat)(ty t:TypeId)(x:SV)(lo hi mx:Option SV):Option (SV×St) :=
 match x,lo,hi,mx with
 | .ra m off,none,none,none =>
  match lk m st.vars,P.underlying t,P.underlying ty with
  | some ⟨.row u,d⟩,some (.array k e),some (.slice e') =>
   if e=e'/\isU8 P e=true/\(P.info? e).map (·.size)=some 1/\0<k/\k<=64/\(List.range k).all (fun j=>decide ((tys P u)[off+j]? = some e))=true then
    match newV st ⟨.set ty,mkf .mkbytes ((List.range k).map fun j=>mkf (.get (off+j)) [d])⟩ n with
    | some st'=>some (.x n,st')
    | none=>none
   else none
  | _,_,_=>none
 | _,_,_,_=>none
def slW(win:Bool)(P:Program)(st:St)(n:Nat)(ty t:TypeId)(x:SV)(lo hi mx:Option SV):Option (SV×St) :=
 match (if win then winSl P st t x lo hi mx else none) with
 | some r=>some r
 | none =>
  match slR P st n ty t x lo hi mx with
  | some r=>some r
  | none=>slA P st n t x lo hi mx
def lenW(P:Program)(st:St)(t:TypeId):SV->Option SV
 | .osl _ n=>if kdT P t=some .sl/\n<=1000000 then some (.i .i64 (.k (.int (n:Nat)))) else none
 | .w (.suf k) [.x m] =>
  match lk m st.vars with
  | some ⟨.own _,d⟩=>if kdT P t=some .sl then some (.i .i64 (.f .len [.f .drop [d,.k (.int (k:Nat))]])) else none
  | _=>none
 | _=>none
def idxE(P:Program)(st:St)(t:TypeId)(x ix:SV):Option (SV×St) :=
 match P.underlying t,x,ix with
 | some (.slice e),.x m,.i _ k =>
  match lk m st.vars,P.info? e with
  | some ⟨.own u,d⟩,some i=>if u=t/\xCD P e i=true then some (.ea m k 0 i.size,addOb st (.idx k d true)) else none
  | _,_=>none
 | _,_,_=>none
def idxA(P:Program)(st:St)(n:Nat)(t:TypeId)(x ix:SV):Option (SV×St) :=
 match idxS P st t x ix with
 | some r=>some (r,st)
 | none =>
  match idxE P st t x ix with
  | some r=>some r
  | none=>idxO P st n t x ix
def yMJ(P:Program)(e t:TypeId)(off:Nat):Option (Option Nat) :=
 if off=0/\t=e then some none else
 match P.underlying e with
 | some de=>if zHA de/\((tys P e).drop off).take (tys P t).length=tys P t/\tys P t≠[] then some (some off) else none
 | _=>none
def loadE(P:Program)(st:St)(n:Nat)(t:TypeId):SV->Option (SV×St)
 | .ea m k off sz =>
  match lk m st.vars with
  | some ⟨.own u,d⟩ =>
   match P.underlying u with
   | some (.slice e) =>
    match P.info? e,P.underlying t,yMJ P e t off with
    | some i,some dt,some p =>
     if i.size=sz/\xCD P e i=true then
      match (match p with|none=>some (DE.f .at [d,k])|some o=>if zHA dt then none else some (mkf (.get o) [.f .at [d,k]])) with
      | some de =>
       if qSB dt then some (zWD P n t de,addOb st (.idx k d true)) else
       match newV (addOb st (.idx k d true)) ⟨.set t,de⟩ n with
       | some st'=>some (.x n,st')
       | none=>none
      | none=>none
     else none
    | _,_,_=>none
   | _=>none
  | _=>none
 | _=>none
def loadG(P:Program)(st:St)(n:Nat)(t:TypeId)(a:SV):Option (SV×St) :=
 match a,P.underlying t,P.info? t with
 | .c (.glob k),some (.interface _),some _ =>
  match newV (addOb st (.nz (.f (.ext 399) [.k (.int (k:Nat))]))) ⟨.gi,.k (.bool true)⟩ n with
  | some st1=>some (.x n,st1)
  | none=>none
 | _,_,_=>none
def loadA(P:Program)(st:St)(n:Nat)(t:TypeId)(a:SV):Option (SV×St) :=
 match yRI P st t a with
 | some v=>some (v,st)
 | none =>
  match loadE P st n t a with
  | some r=>some r
  | none=>loadG P st n t a
def xII(d k x:DE):Option Nat->DE
 | none=>.f .setAt [d,k,x]
 | some o=>.f (.setCells o) [d,k,x]
def putS(d k x:DE)(p:Option Nat):DE :=
 match d,k,p with
 | .f .app [d0,.f .mklist [z]],.f .len [d1],none=>if d1.beq d0 then .f .app [d0,.f .mklist [x]] else xII (.f .app [d0,.f .mklist [z]]) (.f .len [d1]) x none
 | d,k,p=>xII d k x p
def xML(P:Program)(st:St)(t:TypeId)(a v:SV):Option St :=
 match a with
 | .ea m k off sz =>
  match svT P (settle st v) t v,lk m (settle st v).vars with
  | some x,some ⟨.own u,d⟩ =>
   match P.underlying u with
   | some (.slice e) =>
    match P.info? e,P.info? t,yMJ P e t off with
    | some i,some it,some p =>
     if i.size=sz/\xCD P e i=true/\it.size=(tys P t).length then
      some { addOb (settle st v) (.idx k d true) with vars:=upd m ⟨.own u,putS d k x p⟩ (settle st v).vars }
     else none
    | _,_,_=>none
   | _=>none
  | _,_=>none
 | _=>none
def xDJ(P:Program)(st:St)(t:TypeId)(a v:SV):Option St :=
 match xNL P st t a v with
 | some s=>some s
 | none=>xML P st t a v
def copyS(P:Program)(st:St)(t u:TypeId)(x y:SV):Option (SV×St) :=
 match x with
 | .x m =>
  match lk m st.vars,P.underlying t with
  | some ⟨.own t',d⟩,some (.slice e) =>
   if t=t'/\t=u/\isU8 P e=true/\(P.info? e).map (·.size)=some 1 then
    match svT P st u y with
    | some s=>some (.i .i64 (mkf .imin [mkf .len [d],mkf .len [s]]),{ st with vars:=upd m ⟨.own t,.f .copy [d,s]⟩ st.vars })
    | none=>none
   else none
  | _,_=>none
 | _=>none
def yMB(d:DE):Nat->List SV->Option (List SV)
 | _,[]=>some []
 | j,.i .u8 e::l =>
  match yMB d (j+1) l with
  | some r=>some (.i .u8 (mkf .ite [mkf .ltI [.k (.int (j:Nat)),mkf .len [d]],mkf (.get 0) [mkf .at [d,.k (.int (j:Nat))]],e])::r)
  | none=>none
 | _,_=>none
def copyO(P:Program)(st:St)(t u:TypeId)(x y:SV):Option (SV×St) :=
 match x with
 | .osl o n =>
  match lk o st.objs,P.underlying t with
  | some cs,some (.slice e) =>
   if t=u/\isU8 P e=true/\(P.info? e).map (·.size)=some 1/\cs.length=n then
    match svT P st u y with
    | some d =>
     match yMB d 0 cs with
     | some cs'=>some (.i .i64 (mkf .imin [.k (.int (n:Nat)),mkf .len [d]]),{ st with objs:=upd o cs' st.objs })
     | none=>none
    | none=>none
   else none
  | _,_=>none
 | _=>none
def copyA(P:Program)(st:St)(t u:TypeId)(x y:SV):Option (SV×St) :=
 match copyS P st t u x y with
 | some r=>some r
 | none=>copyO P st t u x y
def opdO(st:St):Option Operand->Option (Option SV)
 | none=>some none
 | some o=>(opd st o).map some
def minS:List SV->Option SV
 | [.i k a,.i k' b]=>if k=k' then some (.i k (mkf .imin [a,b])) else none
 | _=>none
def maxS:List SV->Option SV
 | [.i k a,.i k' b]=>if k=k' then some (.i k (mkf .imax [a,b])) else none
 | _=>none
def remS(st:St)(op:BinOp):SV->SV->Option (SV×St)
 | .i k a,.i k' b =>
  match op with
  | .rem=>if k=k' then some (.i k (mkf .tmod [a,b]),addOb st (.nz b)) else none
  | .shr=>some (.i k (mkf (.shr k) [a,b]),addOb st (.ge0 b))
  | _=>none
 | _,_=>none
def binA(P:Program)(st:St)(t:TypeId)(op:BinOp)(x y:SV):Option (SV×St) :=
 match binS P st t op x y with
 | some v=>some (v,st)
 | none=>remS st op x y
def ptrD(P:Program)(st:St):SV->Option (TypeId×DE)
 | .x n =>
  match lk n st.vars with
  | some ⟨.set t,d⟩=>some (t,d)
  | _=>none
 | .xc n j =>
  match lk n st.vars with
  | some ⟨.set u,d⟩=>match (tys P u)[j]? with|some t=>some (t,mkf (.get j) [d])|none=>none
  | some ⟨.row u,d⟩=>match (tys P u)[j]? with|some t=>some (t,mkf (.get j) [d])|none=>none
  | _=>none
 | _=>none
def restP(P:Program)(st:St)(n:Nat)(q:SV):Option (SV×St) :=
 match ptrD P st q with
 | some (t,d) =>
  match P.underlying t with
  | some (.pointer e) =>
   match newV (addOb st (.when (mkf .isNil [d]) true [.nz (.k (.int 0))])) ⟨.row e,mkf .deref [d]⟩ n with
   | some st'=>some (.ra n 0,st')
   | none=>none
  | _=>none
 | none=>none
def zTI(P:Program)(st:St)(t:TypeId):SV->SV->Option (SV×St)
 | .s (.k (.str l)),.i _ e =>
  match P.underlying t with
  | some .string=>some (.i .u8 (.f .at [.k (.bytes l),e]),addOb st (.idx e (.k (.bytes l)) true))
  | _=>none
 | _,_=>none
abbrev CallF:=FuncId->List SV->St->Option (SV×St)
def flagN(C:Cfg)(k:Nat)(st:St):Bool:=(C.hint st.nt k 0).isSome
def qUA(C:Cfg)(callF:CallF)(f:FuncId)(as:List SV)(n:Nat)(st:St):Option (SV×St) :=
 match C.ctr f with
 | some k =>
  match callS C k as n st with
  | some r=>some r
  | none=>if flagN C 999998 st then callF f as { st with nx:=n } else none
 | none=>callF f as { st with nx:=n }
def qRK:TypeDesc->Bool
 | .pointer _=>true
 | _=>false
def methF(P:Program)(t:TypeId)(name:String):Option FuncId :=
 match P.info? t,P.underlying t with
 | some i,some d =>
  match i.methods.find? (·.name==name) with
  | some m =>
   match m.func with
   | some (f,p)=>if m.path.isEmpty&&(p==qRK d) then some f else none
   | none=>none
  | none=>none
 | _,_=>none
def opS(C:Cfg)(callF:CallF)(st:St)(n:Nat)(o:Oper):Option (SV×St) :=
 let P:=C.P
 match o.op with
 | .move x | .assign x=>do
  let a <- opd st x
  some (a,st)
 | .pick c a b=>do
  let q <- opd st c
  match q with
  | .b (.k (.bool true))=>do
   let v <- opd st a
   some (v,st)
  | .b (.k (.bool false))=>do
   let v <- opd st b
   some (v,st)
  | _=>none
 | .alloc t=>do
  let z <- qME P t
  let st' <- newO st z n
  some (.oa n 0,st')
 | .box t x=>do
  let v <- opd st x
  let l <- flat P st t v
  let st' <- newO st l n
  some (.oa n 0,st')
 | .build t parts=>do
  let ps <- yOG st parts.toList
  let z <- qME P t
  match P.underlying t with
  | some (.struct fs)=>do
   if fs.toList.all (fun f=>(P.info? f.type).isSome) then
    let cs <- xTG P st (zAE P t) z ps
    some (.agg cs,st)
   else none
  | _=>none
 | .buildSlice t len parts=>do
  let ps <- yOG st parts.toList
  zMI P st n t len ps
 | .load t a=>do
  let p <- opd st a
  loadA P st n t p
 | .store t a x=>do
  let p <- opd st a
  let v <- opd st x
  let st' <- xDJ P st t p v
  some (.tup [],st')
 | .nilCheck x=>do
  let q <- opd st x
  match q with
  | .oa o off=>some (.oa o off,st)
  | .ra m off=>some (.ra m off,st)
  | .ea m e off sz=>some (.ea m e off sz,st)
  | q=>restP P st n q
 | .index t x i=>do
  let a <- opd st x
  let b <- opd st i
  zTI P st t a b
 | .binOp op t x y _=>do
  let a <- opd st x
  let b <- opd st y
  match nilI P t op a y with
  | some r=>some (r,st)
  | none =>
   match nilG P st t op a y with
   | some r=>some (r,st)
   | none=>binA P st t op a b
 | .unOp .not _ x=>do
  let q <- opd st x
  match q with
  | .b e=>some (.b (mkf .not [e]),st)
  | _=>none
 | .convert s d x=>do
  let a <- opd st x
  convS P st n s d a
 | .makeSlice t l c=>do
  let a <- opd st l
  let b <- opd st c
  mkslA P st n t a b
 | .makeFunc (.func f) first caught=>do
  let as <- opds st caught.toList
  if first.isEmpty then some (.w (.clo f) as,st) else none
 | .makeInterface t x=>do
  let v <- opd st x
  match P.underlying t with
  | some (.interface _)=>none
  | some _=>some (.w (.ifc t) [v],st)
  | none=>none
 | .fieldAddr s x f=>do
  let ft <- zAE P s f
  let q <- opd st x
  match q with
  | .oa o k=>some (.oa o (k+ft.1),st)
  | .ra m k=>some (.ra m (k+ft.1),st)
  | .ea m e k sz=>some (.ea m e (k+ft.1) sz,st)
  | _=>none
 | .field s x f=>do
  let ft <- zAE P s f
  let v <- opd st x
  let l <- flat P st s v
  let k <- qVD P ft.2
  let r <- xBD P st ft.2 ((l.drop ft.1).take k)
  some (r,st)
 | .indexAddr t x i=>do
  let a <- opd st x
  let b <- opd st i
  idxA P st n t a b
 | .slice t x lo hi mx=>do
  let a <- opd st x
  let l <- opdO st lo
  let h <- opdO st hi
  let m <- opdO st mx
  slW (flagN C 999998 st) P st n o.type t a l h m
 | .extract x i=>do
  let q <- opd st x
  match q with
  | .tup l=>do
   let v <- l[i]?
   some (v,st)
  | _=>none
 | .call c=>do
  match c.callee with
  | .builtin .len=>do
   let as <- opds st c.args.toList
   match as,c.argTypes.toList with
   | [a],[t]=>do
    match xSE P st a with
    | some kd=>if kdT P t=some kd.1/\(kd.1 = .sl∨kd.1 = .sr) then some (.i .i64 (mkf .len [kd.2]),st) else none
    | none=>(lenW P st t a).map fun v=>(v,st)
   | _,_=>none
  | .builtin .append=>do
   let as <- opds st c.args.toList
   match as,c.argTypes.toList with
   | [s,x],[t,u]=>appB P st n t u s x
   | _,_=>none
  | .builtin .copy=>do
   let as <- opds st c.args.toList
   match as,c.argTypes.toList with
   | [x,y],[t,u]=>copyA P st t u x y
   | _,_=>none
  | .builtin .max=>do
   let as <- opds st c.args.toList
   let r <- maxS as
   some (r,st)
  | .builtin .min=>do
   let as <- opds st c.args.toList
   let r <- minS as
   some (r,st)
  | .value (.func f)=>do
   let as <- opds st c.args.toList
   qUA C callF f as n st
  | .value g=>do
   let q <- opd st g
   let as <- opds st c.args.toList
   match q with
   | .w (.clo f) cs=>qUA C callF f (as++cs) n st
   | _=>none
  | .invoke r name=>do
   let q <- opd st r
   let as <- opds st c.args.toList
   match q with
   | .w (.ifc t) [v] =>
    match methF P t name with
    | some f=>qUA C callF f (v::as) n st
    | none=>none
   | _=>none
  | _=>none
 | _=>none
def goS(ops:Array Oper)(st:St)(o:Oper):Option Bool :=
 match o.guard with
 | none=>some true
 | some (j,want) =>
  match ops[j]? with
  | some g =>
   match g.dst with
   | some d =>
    match lk d st.env with
    | some (.b (.k (.bool b)))=>some (b==want)
    | some (.tup [])=>some false
    | _=>none
   | none=>none
  | none=>none
def qHE(C:Cfg)(callF:CallF)(ops:Array Oper)(st:St)(n:Nat)(o:Oper):Option St :=
 match goS ops st o with
 | some true =>
  match opS C callF { st with obl:=[] } n o with
  | some (v,st') =>
   match o.dst with
   | some d=>if d<st'.nt then some { st' with env:=upd d v st'.env,obl:=st'.obl++st.obl,nx:=st.nx } else none
   | none=>some { st' with obl:=st'.obl++st.obl,nx:=st.nx }
  | none=>none
 | some false =>
  match o.dst with
  | some d=>if d<st.nt then some { st with env:=upd d (.tup []) st.env } else none
  | none=>some st
 | none=>none
abbrev Pc:=List (Nat×DE×Bool)
def symGuard(ops:Array Oper)(st:St)(i:Nat):Option (Nat×DE) :=
 match ops[i]? with
 | some o =>
  match o.guard with
  | some (j,_) =>
   match ops[j]? with
   | some q =>
    match q.dst with
    | some d =>
     match lk d st.env with
     | some (.b (.k (.bool _)))=>none
     | some (.b e)=>some (d,e)
     | _=>none
    | none=>none
   | none=>none
  | none=>none
 | none=>none
def zMJ(ops:Array Oper)(st:St):List Nat->Option (Nat×DE)
 | []=>none
 | i::r =>
  match symGuard ops st i with
  | some x=>some x
  | none=>zMJ ops st r
def yDF(x:Nat×DE×Bool):Pc->Pc
 | []=>[x]
 | y::r=>if x.1<=y.1 then x::y::r else y::yDF x r
def qLH(e:DE)(b:Bool):List (Nat×SV)->List (Nat×SV)
 | []=>[]
 | (s,v)::r=>(s,match v with | .b e'=>if e'.beq e then .b (.k (.bool b)) else .b e'|v=>v)::qLH e b r
def setB(st:St)(e:DE)(b:Bool):St:={ st with env:=qLH e b st.env }
def yUB(ops:Array Oper)(is:List Nat):Nat->Pc->St->List (Pc×St)
 | 0,pc,st=>[(pc,st)]
 | n+1,pc,st =>
  match zMJ ops st is with
  | none=>[(pc,st)]
  | some (d,e)=>yUB ops is n (yDF (d,e,true) pc) (setB st e true)++yUB ops is n (yDF (d,e,false) pc) (setB st e false)
def zBF(C:Cfg)(callF:CallF)(ops:Array Oper)(n:Nat)(o:Oper):List (Pc×St)->Option (List (Pc×St))
 | []=>some []
 | p::r =>
  match qHE C callF ops p.2 n o,zBF C callF ops n o r with
  | some s,some r'=>some ((p.1,s)::r')
  | _,_=>none
def yFB(C:Cfg)(callF:CallF)(ops:Array Oper)(base big:Nat):Nat->List Oper->List (Pc×St)->Option (List (Pc×St))
 | _,[],ps=>some ps
 | i,o::r,ps =>
  match zBF C callF ops (base+i*big) o (ps.flatMap fun p=>yUB ops [i] 4 p.1 p.2) with
  | some ps'=>yFB C callF ops base big (i+1) r ps'
  | none=>none
def xYE:List Lp->List Lp->Bool
 | [],[]=>true
 | a::as,b::bs=>a.row==b.row&&a.src.beq b.src&&a.el==b.el&&a.lvl==b.lvl&&xYE as bs
 | _,_=>false
def leS(a b:St):Bool :=
 b.env.all (fun p=>match lk p.1 a.env with|some v=>v.beq p.2|none=>false) &&
 b.vars.all (fun p=>match lk p.1 a.vars with|some v=>decide (v.vt=p.2.vt)&&v.de.beq p.2.de|none=>false) &&
 a.vars.all (fun p=>(lk p.1 b.vars).isSome) &&
 b.objs.all (fun p=>match lk p.1 a.objs with|some v=>yBE v p.2|none=>false) &&
 a.objs.all (fun p=>(lk p.1 b.objs).isSome) &&
 xYE a.loops b.loops&&a.lvl==b.lvl&&a.nt==b.nt &&
 a.obl.all (fun o=>b.obl.any (fun o'=>o.beq o'))
def zNK:Pc->Pc->Bool
 | [],[]=>true
 | (d,e,b)::p,(d',e',b')::q=>d==d'&&e.beq e'&&b==b'&&zNK p q
 | _,_=>false
def nthB(d:Bool)(l:List Bool):Nat->Bool :=
 @List.rec Bool (fun _=>Nat->Bool) (fun _=>d) (fun b _ ih n=>@Nat.rec (fun _=>Bool) b (fun k _=>ih k) n) l
theorem zLL{d:Bool}:∀ {l:List Bool} {n:Nat},nthB d l n=l.getD n d
 | [],n=>by simp[nthB]
 | b::l,0=>by show b=_;simp
 | b::l,n+1=>by
  show nthB d l n=_;rw[zLL];simp
def zKG(e:Edge):Bool :=
 match e.ground with
 | .textOnly _=>false
 | .gcOnly _=>false
 | _=>true
theorem zSH(e:Edge):zKG e=Region.binds .any e:=by
 unfold zKG Region.binds;cases e.ground <;> rfl
def xJD(m:List Bool)(l:List Edge):Bool :=
 @List.rec Edge (fun _=>Bool) true (fun e _ ih=>@Bool.rec (fun _=>Bool) ih (@Bool.rec (fun _=>Bool) false ih (nthB false m e.on)) (zKG e)) l
theorem zHG{m:List Bool}:∀ {l:List Edge},xJD m l=l.all fun e=>!Region.binds .any e || m.getD e.on false
 | []=>rfl
 | e::r=>by
  show @Bool.rec (fun _=>Bool) (xJD m r) (@Bool.rec (fun _=>Bool) false (xJD m r) (nthB false m e.on)) (zKG e)=_;rw[List.all_cons,<- zHG,zLL,zSH];cases Region.binds .any e <;> cases m.getD e.on false <;> simp
def xQC(m0:List Bool)(os:List Oper):Nat->List Bool->List Nat :=
 @List.rec Oper (fun _=>Nat->List Bool->List Nat) (fun _ _=>[]) (fun o _ ih i m =>
  @List.rec Bool (fun _=>List Nat) [] (fun b m' _=>@Bool.rec (fun _=>List Nat) (@Bool.rec (fun _=>List Nat) (ih (Nat.succ i) m') (i::ih (Nat.succ i) m') (xJD m0 o.after.toList)) (ih (Nat.succ i) m') b) m) os
def zVE(ops:Array Oper)(m:List Bool):List Nat:=xQC m ops.toList 0 m
theorem yUG{m0:List Bool}:∀ {os:List Oper} {i:Nat} {m:List Bool},xQC m0 os i m =
  (List.range' i os.length).filter fun j=>!m.getD (j-i) true&&((os[j-i]?).map fun o=>o.after.toList.all fun e=>!Region.binds .any e || m0.getD e.on false).getD false
 | [],i,m=>rfl
 | o::os,i,[]=>by
  symm;rw[show xQC m0 (o::os) i []=[] from rfl,List.filter_eq_nil_iff];intro j _
  simp
 | o::os,i,b::m=>by
  have h1:xQC m0 (o::os) i (b::m)=if !b&&xJD m0 o.after.toList then i::xQC m0 os (i+1) m else xQC m0 os (i+1) m:=by
   show @Bool.rec (fun _=>List Nat) (@Bool.rec (fun _=>List Nat) (xQC m0 os (i+1) m) (i::xQC m0 os (i+1) m) (xJD m0 o.after.toList)) (xQC m0 os (i+1) m) b=_;cases b <;> cases xJD m0 o.after.toList <;> rfl
  have h2:(List.range' (i+1) os.length).filter (fun j=>!(b::m).getD (j-i) true&&(((o::os)[j-i]?).map fun o=>o.after.toList.all fun e=>!Region.binds .any e || m0.getD e.on false).getD false) =
    (List.range' (i+1) os.length).filter (fun j=>!m.getD (j-(i+1)) true&&((os[j-(i+1)]?).map fun o=>o.after.toList.all fun e=>!Region.binds .any e || m0.getD e.on false).getD false):=by
   refine List.filter_congr fun j hj=>?_
   have hj1:i+1<=j:=(List.mem_range'_1.1 hj).1;have e:j-i=(j-(i+1))+1:=by omega
   rw[e,gsZ,List.getElem?_cons_succ]
  rw[h1,yUG,List.length_cons,List.range'_succ,List.filter_cons,h2];simp only[Nat.sub_self,gzZ,List.getElem?_cons_zero,Option.map_some,Option.getD_some,zHG]
theorem zWE(ops:Array Oper)(m:List Bool):zVE ops m=Region.ready .any ops m.toArray:=by
 unfold zVE Region.ready;rw[yUG,<- List.range_eq_range',Array.length_toList];refine List.filter_congr fun j _=>?_
 simp only[Nat.sub_zero,Array.getElem?_toList]
 congr 1
 ·simp[Array.getD_eq_getD_getElem?,List.getD_eq_getElem?_getD]
 ·cases ops[j]? with
  | none=>rfl
  | some o=>simp[Array.all_toList,Array.getD_eq_getD_getElem?,List.getD_eq_getElem?_getD]
theorem yTG(ops:Array Oper)(n:Nat):zVE ops (List.replicate n false)=Region.ready .any ops (Array.replicate n false):=by
 rw[zWE,List.toArray_replicate]
def zHI(i:Nat)(l:List Edge):Bool :=
 @List.rec Edge (fun _=>Bool) false (fun e _ ih=>@Bool.rec (fun _=>Bool) ih (@Bool.rec (fun _=>Bool) ih true (Nat.beq e.on i)) (zKG e)) l
theorem qRI{i:Nat}:∀ {l:List Edge},zHI i l=l.any fun e=>Region.binds .any e&&e.on==i
 | []=>rfl
 | e::r=>by
  show @Bool.rec (fun _=>Bool) (zHI i r) (@Bool.rec (fun _=>Bool) (zHI i r) true (Nat.beq e.on i)) (zKG e)=_;rw[List.any_cons,<- qRI,nbeq,zSH];cases Region.binds .any e <;> cases (e.on==i) <;> rfl
def zEE(ops:Array Oper)(oi:Oper)(i:Nat)(os:List Oper):Nat->List Bool->Bool :=
 @List.rec Oper (fun _=>Nat->List Bool->Bool) (fun _ _=>true) (fun o _ ih j m =>
  @List.rec Bool (fun _=>Bool) true (fun b m' _=>@Bool.rec (fun _=>Bool) (@Bool.rec (fun _=>Bool) (@Bool.rec (fun _=>Bool) (@Bool.rec (fun _=>Bool) false (ih (Nat.succ j) m') (oi.apart ops o)) (ih (Nat.succ j) m') (zHI i o.after.toList)) (ih (Nat.succ j) m') (Nat.beq j i)) (ih (Nat.succ j) m') b) m) os
def freeB(ops:Array Oper)(m:List Bool)(i:Nat):Bool :=
 match ops[i]? with
 | none=>false
 | some oi=>zEE ops oi i ops.toList 0 m
theorem yJH{ops:Array Oper}{oi:Oper}{i:Nat}:∀ {os:List Oper} {k:Nat} {m:List Bool},zEE ops oi i os k m =
  (List.range' k os.length).all fun j=>j==i || m.getD (j-k) true || match os[j-k]? with
   | some oj=>(oj.after.toList.any fun e=>Region.binds .any e&&e.on==i) || oi.apart ops oj
   | none=>true
 | [],k,m=>rfl
 | o::os,k,[]=>by
  symm;rw[show zEE ops oi i (o::os) k []=true from rfl,List.all_eq_true];intro j _
  simp
 | o::os,k,b::m=>by
  have h1:zEE ops oi i (o::os) k (b::m)=((k==i || b || (zHI i o.after.toList || oi.apart ops o))&&zEE ops oi i os (k+1) m):=by
   show @Bool.rec (fun _=>Bool) (@Bool.rec (fun _=>Bool) (@Bool.rec (fun _=>Bool) (@Bool.rec (fun _=>Bool) false (zEE ops oi i os (k+1) m) (oi.apart ops o)) (zEE ops oi i os (k+1) m) (zHI i o.after.toList)) (zEE ops oi i os (k+1) m) (Nat.beq k i)) (zEE ops oi i os (k+1) m) b=_;rw[nbeq];cases b <;> cases (k==i) <;> cases zHI i o.after.toList <;> cases oi.apart ops o <;> simp
  have h2:(List.range' (k+1) os.length).all (fun j=>j==i || (b::m).getD (j-k) true || match (o::os)[j-k]? with
    | some oj=>(oj.after.toList.any fun e=>Region.binds .any e&&e.on==i) || oi.apart ops oj
    | none=>true)=(List.range' (k+1) os.length).all (fun j=>j==i || m.getD (j-(k+1)) true || match os[j-(k+1)]? with
    | some oj=>(oj.after.toList.any fun e=>Region.binds .any e&&e.on==i) || oi.apart ops oj
    | none=>true):=by
   rw[Bool.eq_iff_iff,List.all_eq_true,List.all_eq_true];refine forall_congr' fun j=>forall_congr' fun hj=>?_
   have hj1:k+1<=j:=(List.mem_range'_1.1 hj).1;have e:j-k=(j-(k+1))+1:=by omega
   rw[e,gsZ,List.getElem?_cons_succ]
  rw[h1,yJH,List.length_cons,List.range'_succ,List.all_cons,h2];simp only[Nat.sub_self,gzZ,List.getElem?_cons_zero,qRI]
theorem freeB_eq(ops:Array Oper)(m:List Bool)(i:Nat):freeB ops m i=Region.free .any ops m.toArray i:=by
 unfold freeB Region.free;cases ops[i]? with
 | none=>rfl
 | some oi =>
  simp only;rw[yJH,<- List.range_eq_range',Array.length_toList];rw[Bool.eq_iff_iff,List.all_eq_true,List.all_eq_true];refine forall_congr' fun j=>forall_congr' fun hj=>?_
  simp only[Nat.sub_zero,Array.getElem?_toList];have e1:m.toArray.getD j true=m.getD j true:=by simp[Array.getD_eq_getD_getElem?,List.getD_eq_getElem?_getD]
  rw[e1];cases ops[j]? with
  | none=>rfl
  | some oj=>simp only[Array.any_toList]
def addL(m:List Bool)(pc:Pc)(s:St):List (List Bool×Pc×St)->Option (List (List Bool×Pc×St))
 | []=>some [(m,pc,s)]
 | p::r =>
  if m==p.1&&zNK pc p.2.1&&(leS s p.2.2 || decide (4<m.length)) then (if leS s p.2.2 then some (p::r) else none) else
  match addL m pc s r with
  | some r'=>some (p::r')
  | none=>none
def yYK(m:List Bool):List (Pc×St)->List (List Bool×Pc×St)->Option (List (List Bool×Pc×St))
 | [],acc=>some acc
 | p::r,acc =>
  match addL m p.1 p.2 acc with
  | some acc'=>yYK m r acc'
  | none=>none
def yZH(C:Cfg)(callF:CallF)(ops:Array Oper)(base big:Nat)(m:List Bool)(pc:Pc)(s:St):List Nat->List (List Bool×Pc×St)->Option (List (List Bool×Pc×St))
 | [],acc=>some acc
 | i::r,acc =>
  match ops[i]? with
  | none=>none
  | some o =>
   match qHE C callF ops s (base+i*big) o with
   | none=>none
   | some s' =>
    match yYK (m.set i true) (yUB ops (zVE ops (m.set i true)) 6 pc s') acc with
    | none=>none
    | some acc'=>yZH C callF ops base big m pc s r acc'
def isLen:Callee->Bool
 | .builtin .len=>true
 | _=>false
def xGE(o:Oper):Bool:=match o.op with | .move _=>true | .fieldAddr _ _ _=>true | .call c=>isLen c.callee|_=>false
def xJI(ops:Array Oper)(m:List Bool)(i:Nat):Bool:=(match ops[i]? with|some o=>xGE o|none=>false)&&freeB ops m i
def yBL(P:Program)(st:St)(o:Oper):Option SV :=
 match o.op with
 | .load t a =>
  match opd st a with
  | some p=>yRI P st t p
  | none=>none
 | .nilCheck x =>
  match opd st x with
  | some (.oa o off)=>some (.oa o off)
  | some (.ra m off)=>some (.ra m off)
  | some (.ea m e off sz)=>some (.ea m e off sz)
  | _=>none
 | .indexAddr t x i =>
  match opd st x,opd st i with
  | some a,some b=>idxS P st t a b
  | _,_=>none
 | .convert s d x =>
  match P.underlying s,P.underlying d,opd st x with
  | some (.int _),some (.int k),some (.i _ e)=>some (.i k (mkf (.wrap k) [e]))
  | _,_,_=>none
 | _=>none
def readK(o:Oper):Bool:=(match o.op with | .load _ _=>true | .nilCheck _=>true | .indexAddr _ _ _=>true | .convert _ _ _=>true|_=>false)&&o.guard.isNone
def xYC(oj:Oper)(i:Nat):Bool:=oj.after.any fun e=>Region.binds .any e&&e.on==i
def okRj(ops:Array Oper)(oi:Oper)(d i j:Nat):Bool :=
 j==i || match ops[j]? with
  | some oj=>oj.dst != some d&&(!(oj.looksAt ops).contains d || xYC oj i)&&(match oj.dst with|some e=>!(oi.looksAt ops).contains e || xYC oi j|none=>true)
  | none=>true
def okR(ops:Array Oper)(i:Nat):Bool :=
 match ops[i]? with
 | some oi=>readK oi&&(match oi.dst with
  | some d=>!(oi.looksAt ops).contains d&&(List.range ops.size).all (okRj ops oi d i)
  | none=>false)
 | none=>false
def hardK(ops:Array Oper)(ns:List Nat)(i k:Nat):Bool :=
 match ops[k]? with
 | some o=>xYC o i && !(ns.contains k) && !xGE o
 | none=>false
def yLL(ops:Array Oper)(ns:List Nat):List Nat->List (Nat×List Nat)
 | []=>[]
 | i::r=>(i,(List.range ops.size).filter (hardK ops ns i))::yLL ops ns r
def qRG(ops:Array Oper):List (Nat×List Nat) :=
 if Region.noSelect ops then yLL ops ((List.range ops.size).filter (okR ops)) ((List.range ops.size).filter (okR ops)) else []
def chk1(P:Program)(ops:Array Oper)(m:List Bool)(st:St)(r:Nat×List Nat):Bool :=
 !(m.getD r.1 false) || r.2.any (fun k=>m.getD k false) || match ops[r.1]? with
  | some o =>
   match yBL P st o,o.dst with
   | some v,some d=>(match lk d st.env with|some v'=>v.beq v'|none=>false)
   | _,_=>false
  | none=>false
def chkR(P:Program)(ops:Array Oper)(R:List (Nat×List Nat))(m:List Bool)(st:St):Bool:=R.all (chk1 P ops m st)
def readAt(P:Program)(ops:Array Oper)(R:List (Nat×List Nat))(st:St)(i:Nat):Bool :=
 (R.any fun r=>r.1==i)&&(match ops[i]? with|some o=>(yBL P st o).isSome|none=>false)
def qOG(P:Program)(ops:Array Oper)(R:List (Nat×List Nat))(m:List Bool)(st:St)(rs:List Nat):List Nat :=
 match rs.find? (xJI ops m) with
 | some i=>if Region.noSelect ops then [i] else rs
 | none =>
  match rs.find? (readAt P ops R st) with
  | some i=>[i]
  | none=>rs
def zJL(C:Cfg)(callF:CallF)(ops:Array Oper)(base big:Nat)(R:List (Nat×List Nat)):List (List Bool×Pc×St)->List (List Bool×Pc×St)->Option (List (List Bool×Pc×St))
 | [],acc=>some acc
 | p::r,acc =>
  if (zVE ops p.1).isEmpty || !chkR C.P ops R p.1 p.2.2 then none else
  match yZH C callF ops base big p.1 p.2.1 p.2.2 (qOG C.P ops R p.1 p.2.2 (zVE ops p.1)) acc with
  | none=>none
  | some acc'=>zJL C callF ops base big R r acc'
def doneL(P:Program)(ops:Array Oper)(R:List (Nat×List Nat)):List (List Bool×Pc×St)->Option (List (Pc×St))
 | []=>some []
 | p::r =>
  match doneL P ops R r with
  | some r'=>if (zVE ops p.1).isEmpty&&chkR P ops R p.1 p.2.2 then some (p.2::r') else none
  | none=>none
def yEB(C:Cfg)(callF:CallF)(ops:Array Oper)(base big:Nat)(R:List (Nat×List Nat)):Nat->List (List Bool×Pc×St)->Option (List (Pc×St))
 | 0,l=>doneL C.P ops R l
 | n+1,l =>
  match zJL C callF ops base big R l [] with
  | none=>none
  | some l'=>yEB C callF ops base big R n l'
def zMD(C:Cfg)(callF:CallF)(ops:Array Oper)(base big:Nat)(n:Nat)(l:List (List Bool×Pc×St)):Option (List (Pc×St)) :=
 match yEB C callF ops base big (qRG ops) n l with
 | some ps=>some ps
 | none=>yEB C callF ops base big [] n l
inductive Ex where
 | norm
 | exit (i:Nat)
 | ret
 | goto (l:Nat)
 deriving DecidableEq
structure Out where
 pc:List (DE×Bool)
 ex:Ex
 st:St
def qZG(P:Program)(s:St):SV->Option (Option VT×DE)
 | .c .nils=>some (none,.k .nil)
 | .c .nilm=>some (none,.k .nil)
 | .c .nilp=>some (none,.k .nil)
 | .c .nilI=>some (none,.k (.bool false))
 | .x n =>
  match lk n s.vars with
  | some ⟨.set t,de⟩=>some (some (.set t),de)
  | some ⟨.own t,de⟩=>some (some (.own t),de)
  | some ⟨.tags t,de⟩=>some (some (.tags t),de)
  | some ⟨.gi,de⟩=>some (some .gi,de)
  | _=>none
 | .xc n j =>
  match lk n s.vars with
  | some vi =>
   match vi.vt.rest with
   | some u =>
    match (tys P u)[j]? with
    | some ct=>some (some (.set ct),mkf (.get j) [vi.de])
    | none=>none
   | none=>none
  | none=>none
 | _=>none
def zFD(P:Program):VT->SV->Bool
 | .own t,.c .nils=>zBC P t
 | .tags t,.c .nilm=>qGG P t
 | .set t,.c .nils=>zBC P t
 | .set t,.c .nilm=>qGG P t
 | .set t,.c .nilp=>match P.underlying t with|some (.pointer _)=>true|_=>false
 | .gi,.c .nilI=>true
 | _,.c _=>false
 | _,_=>true
def qWJ:VT->Bool
 | .set _=>true
 | _=>false
def yHK(P:Program)(s:St)(k:Nat)(vi:VI):SV->Option St
 | .x n =>
  match lk n s.vars with
  | some ⟨.own _,de⟩=>if qWJ vi.vt then newV (settle1 s n) vi k else newV { s with vars:=upd n ⟨.dead,de⟩ s.vars } vi k
  | some ⟨.tags _,de⟩=>if qWJ vi.vt then newV (settle1 s n) vi k else newV { s with vars:=upd n ⟨.dead,de⟩ s.vars } vi k
  | some ⟨.set _,_⟩=>newV s vi k
  | some ⟨.gi,_⟩=>newV s vi k
  | _=>none
 | .xc _ _=>newV s vi k
 | .c _=>newV s vi k
 | _=>none
def vtOf:Option VT->Option VT->Option VT
 | some u,some v=>if u=v then some u else
  match u,v with
  | .own t,.set t'=>if t=t' then some (.set t) else none
  | .set t,.own t'=>if t=t' then some (.set t) else none
  | .tags t,.set t'=>if t=t' then some (.set t) else none
  | .set t,.tags t'=>if t=t' then some (.set t) else none
  | _,_=>none
 | some u,none=>some u
 | none,some v=>some v
 | none,none=>none
structure Ms where
 s1:St
 s2:St
 k:Nat
def sameV(m:Ms):SV->Bool
 | .x n =>
  match lk n m.s1.vars,lk n m.s2.vars with
  | some u,some v=>decide (u.vt=v.vt)&&u.de.beq v.de
  | _,_=>true
 | .xc n _ =>
  match lk n m.s1.vars,lk n m.s2.vars with
  | some u,some v=>decide (u.vt=v.vt)&&u.de.beq v.de
  | _,_=>true
 | _=>true
def phi(P:Program)(c:DE)(m:Ms)(a b:SV):Option (SV×Ms) :=
 if a.beq b&&sameV m a then some (a,m) else
 match norm P m.s1 a,norm P m.s2 b with
 | .i k d,.i k' e=>if k=k' then some (.i k (mkf .ite [c,d,e]),m) else none
 | .b d,.b e=>some (.b (mkf .ite [c,d,e]),m)
 | .s d,.s e=>some (.s (mkf .ite [c,d,e]),m)
 | .fl d,.fl e=>some (.fl (mkf .ite [c,d,e]),m)
 | a,b =>
  match qZG P m.s1 a,qZG P m.s2 b with
  | some (u,d),some (v,e) =>
   match vtOf u v with
   | some w =>
    if zFD P w a&&zFD P w b then
     match yHK P m.s1 m.k ⟨w,mkf .ite [c,d,e]⟩ a,yHK P m.s2 m.k ⟨w,mkf .ite [c,d,e]⟩ b with
     | some s1,some s2=>some (.x m.k,⟨s1,s2,m.k+1⟩)
     | _,_=>none
    else none
   | none=>none
  | _,_=>none
def phis(P:Program)(c:DE):Ms->List SV->List SV->Option (List SV×Ms)
 | m,[],[]=>some ([],m)
 | m,a::as,b::bs =>
  match phi P c m a b with
  | some (v,m1) =>
   match phis P c m1 as bs with
   | some (vs,m2)=>some (v::vs,m2)
   | none=>none
  | none=>none
 | _,_,_=>none
def phiA(P:Program)(c:DE)(m:Ms)(a b:SV):Option (SV×Ms) :=
 if a.beq b then phi P c m a b else
 match a,b with
 | .agg l,.agg r =>
  match phis P c m l r with
  | some (vs,m1)=>some (.agg vs,m1)
  | none=>none
 | a,b=>phi P c m a b
def qLA(P:Program)(c:DE):Ms->List (Nat×List SV)->List (Nat×List SV)×Ms
 | m,[]=>([],m)
 | m,(o,_)::r =>
  match lk o m.s1.objs,lk o m.s2.objs with
  | some a,some b =>
   match phis P c m a b with
   | some (l,m1)=>let q:=qLA P c m1 r;((o,l)::q.1,q.2)
   | none=>qLA P c m r
  | _,_=>qLA P c m r
def yPB(P:Program)(c:DE):Ms->List (Nat×SV)->List (Nat×SV)×Ms
 | m,[]=>([],m)
 | m,(s,_)::r =>
  match lk s m.s1.env,lk s m.s2.env with
  | some a,some b =>
   match phiA P c m a b with
   | some (v,m1)=>let q:=yPB P c m1 r;((s,v)::q.1,q.2)
   | none=>yPB P c m r
  | _,_=>yPB P c m r
def xSB(s1 s2:St):List (Nat×VI)->List (Nat×VI)
 | []=>[]
 | (n,_)::r =>
  match lk n s1.vars,lk n s2.vars with
  | some a,some b=>(n,if a.vt=b.vt/\a.de.beq b.de=true then a else ⟨.dead,.k .nil⟩)::xSB s1 s2 r
  | _,_=>(n,⟨.dead,.k .nil⟩)::xSB s1 s2 r
def zKE{α β:Type}(a:List (Nat×α))(b:List (Nat×β))(ms:List Nat):Bool:=a.all fun p=>(lk p.1 b).isSome && !ms.elem p.1
def zXB:List Ob->List Ob->Nat
 | a::as,b::bs=>if a.beq b then zXB as bs+1 else 0
 | _,_=>0
def xUF(l m:List Ob):Nat:=zXB l.reverse m.reverse
def xVJ(c:DE)(b:Bool)(l:List Ob):List Ob:=if l.isEmpty then [] else [.when c b l]
def zWB(c:DE)(l m:List Ob):List Ob :=
 let n:=xUF l m
 xVJ c true (l.take (l.length-n))++(xVJ c false (m.take (m.length-n))++l.drop (l.length-n))
def zAG(P:Program)(c:DE)(s0 s1 s2:St):Option St :=
 if s1.lvl=s0.lvl/\s2.lvl=s0.lvl/\s1.nt=s0.nt/\s2.nt=s0.nt/\xYE s1.loops s0.loops=true/\xYE s2.loops s0.loops=true then
  let r:=qLA P c ⟨s1,s2,max s1.nx s2.nx⟩ s1.objs
  let q:=yPB P c r.2 s1.env
  if zKE s0.objs r.1 []&&zKE s0.vars q.2.s1.vars [] then
   some { env:=q.1,vars:=xSB q.2.s1 q.2.s2 q.2.s1.vars,objs:=r.1,loops:=s0.loops,obl:=zWB c s1.obl s2.obl++s0.obl,lvl:=s0.lvl,nx:=q.2.k,nt:=s0.nt }
  else none
 else none
def xGH(d:Nat)(e:DE):Pc->Option (Bool×Pc)
 | []=>none
 | (d',e',b)::r =>
  if d==d' then (if e.beq e' then some (b,r) else none) else
  match xGH d e r with
  | some (b',r')=>some (b',(d',e',b)::r')
  | none=>none
def xFH(d:Nat)(e:DE):List (Pc×St)->Option (List (Pc×St)×List (Pc×St))
 | []=>some ([],[])
 | p::r =>
  match xGH d e p.1,xFH d e r with
  | some (true,pc),some (t,f)=>some ((pc,p.2)::t,f)
  | some (false,pc),some (t,f)=>some (t,(pc,p.2)::f)
  | _,_=>none
def xBF(l:List (Pc×St)):Pc->Option (Nat×DE×List (Pc×St)×List (Pc×St))
 | []=>none
 | (d,e,_)::r =>
  match xFH d e l with
  | some (t,f)=>some (d,e,t,f)
  | none=>xBF l r
def yLE(P:Program)(st0:St):Nat->List (Pc×St)->Option St
 | _,[([],s)]=>some s
 | 0,_=>none
 | n+1,p::l =>
  match xBF (p::l) p.1 with
  | some (_,e,t,f) =>
   match yLE P st0 n t,yLE P st0 n f with
   | some s1,some s2=>zAG P e st0 s1 s2
   | _,_=>none
  | none=>none
 | _+1,[]=>none
def xKF(C:Cfg)(callF:CallF)(ops:Array Oper)(draw:Bool)(big:Nat)(st:St):Option St :=
 match (if draw then zMD C callF ops st.nx big ops.size ((yUB ops (zVE ops (List.replicate ops.size false)) 6 [] { st with obl:=[],nx:=st.nx+ops.size*big }).map fun p=>(List.replicate ops.size false,p))
  else yFB C callF ops st.nx big 0 ops.toList [([],{ st with obl:=[],nx:=st.nx+ops.size*big })]) with
 | some ps =>
  match yLE C.P { st with obl:=[],nx:=st.nx+ops.size*big } 8 ps with
  | some m=>some { m with obl:=m.obl++st.obl }
  | none=>none
 | none=>none
def zOD(C:Cfg)(callF:CallF)(ops:Array Oper)(big:Nat)(st:St):Option (St×St) :=
 match zMD C callF ops st.nx big ops.size ((yUB ops (zVE ops (List.replicate ops.size false)) 6 [] { st with obl:=[],nx:=st.nx+ops.size*big }).map fun p=>(List.replicate ops.size false,p)) with
 | some [([],a),([],b)]=>some ({ a with obl:=a.obl++st.obl },{ b with obl:=b.obl++st.obl })
 | _=>none
def zKL{α β:Type}(a:List (Nat×α))(b:List (Nat×β)):List Nat:=(b.filter fun p=>(lk p.1 a).isNone).map (·.1)
def delB{α:Type}:List Nat->List (Nat×α)->List (Nat×α)
 | [],l=>l
 | s::r,l=>del s (delB r l)
def cutS(st t:St):St:={ t with env:=delB (zKL st.env t.env) t.env,objs:=delB (zKL st.objs t.objs) t.objs,obl:=[] }
def unlike(a b:List (Nat×SV)):List Nat:=(b.filter fun p=>match lk p.1 a with|some v=>!(v.beq p.2)|none=>true).map (·.1)
def joinB(P:Program)(st t1 t2:St):Option St :=
 match zAG P (.k (.bool true)) { st with obl:=[] } (cutS st t1) (cutS st t2),zAG P (.k (.bool false)) { st with obl:=[] } (cutS st t1) (cutS st t2) with
 | some m1,some m2 =>
  let m:St:={ m2 with env:=delB (unlike m1.env m2.env) m2.env,obl:=(t1.obl.filter fun o=>!(t2.obl.any fun o'=>o.beq o'))++t2.obl }
  if leS m1 m&&leS m2 m then some m else none
 | _,_=>none
def yHI:Code->List Code
 | .seq a b=>yHI a++yHI b
 | c=>[c]
structure LoopP where
 bid:Nat
 tc:Nat
 ti:Nat
 tn:Nat
 body:Code
 inner:Nat
 kd:IntKind
 sl:List Nat
def headP:List Oper->Option (Nat×Nat×Nat×List Nat)
 | [h] =>
  match h.dst,h.op with
  | some tc,.binOp .lss _ (.tmp ti) (.tmp tn) _=>if h.guard.isNone/\ti≠tn/\tc≠ti/\tc≠tn then some (tc,ti,tn,[tc]) else none
  | _,_=>none
 | [m1,m2,h] =>
  match m1.dst,m1.op,m2.dst,m2.op,h.dst,h.op with
  | some a,.move (.tmp ti),some b,.move (.tmp tn),some tc,.binOp .lss _ (.tmp a') (.tmp b') _ =>
   if m1.guard.isNone/\m2.guard.isNone/\h.guard.isNone/\a'=a/\b'=b/\a≠b/\ti≠tn/\a≠ti/\a≠tn/\b≠ti/\b≠tn/\tc≠ti/\tc≠tn then some (tc,ti,tn,[tc,a,b]) else none
  | _,_,_,_,_,_=>none
 | _=>none
def tailP:List Oper->Option (Nat×IntKind×List Nat)
 | [a1,a2] =>
  match a1.dst,a1.op,a2.dst,a2.op with
  | some t2,.binOp .add _ (.tmp ti) (.const (.int kd 1)) _,some ti2,.move (.tmp t2')=>if a1.guard.isNone/\a2.guard.isNone/\ti2=ti/\t2'=t2/\t2≠ti then some (ti,kd,[t2]) else none
  | _,_,_,_=>none
 | [m,a1,a2] =>
  match m.dst,m.op,a1.dst,a1.op,a2.dst,a2.op with
  | some x,.move (.tmp ti),some y,.binOp .add _ (.tmp x') (.const (.int kd 1)) _,some ti2,.assign (.tmp y') =>
   if m.guard.isNone/\a1.guard.isNone/\a2.guard.isNone/\x'=x/\y'=y/\ti2=ti/\x≠ti/\y≠ti then some (ti,kd,[x,y]) else none
  | _,_,_,_,_,_=>none
 | _=>none
def xZC:Code->Option LoopP
 | .block bid (.loop b) =>
  match yHI b with
  | [.region _ hops false,.cond (.tmp tc) .skip (.exit bid'),.block inner body,.region _ aops false] =>
   match headP hops.toList,tailP aops.toList with
   | some (tc',ti,tn,l),some (ti',kd,m) =>
    if tc'=tc/\bid'=bid/\ti'=ti/\bid≠inner/\m.elem tn=false/\(kd = .i64∨kd = .i32) then some ⟨bid,tc,ti,tn,body,inner,kd,l++m⟩ else none
   | _,_=>none
  | _=>none
 | _=>none
def loopE(st:St)(lp:LoopP):Bool :=
 match lk lp.tn st.env with
 | some (.i _ (.f .len [.k _]))=>true
 | _=>false
def xVE:Code->Bool
 | .seq a b=>xVE a || xVE b
 | .region _ ops _=>ops.any fun o=>match o.op with
  | .call c=>(match c.callee with | .invoke _ _=>true|_=>false)
  | _=>false
 | .cond _ a b=>xVE a || xVE b
 | .loop a=>xVE a
 | .block _ a=>xVE a
 | _=>false
def qZK(st:St)(c:Code):Option LoopP :=
 match xZC c with
 | some lp=>if loopE st lp || xVE lp.body then none else some lp
 | none=>none
theorem ySI{st:St}{c:Code}{lp:LoopP}(h:qZK st c=some lp):xZC c=some lp:=by
 unfold qZK at h;split at h
 ·split at h
  ·cases h
  ·rename_i h1 _;rw[h1,h]
 ·cases h
def qVA{α:Type}:List Nat->List (Nat×α)->List (Nat×α)
 | [],l=>l
 | s::r,l=>del s (qVA r l)
def stillV(a b:St):SV->Bool
 | .x n =>
  match lk n a.vars,lk n b.vars with
  | some u,some v=>u.de.beq v.de
  | _,_=>true
 | _=>true
def qIB(skip:Nat)(a b:St):List (Nat×SV)->List Pl
 | []=>[]
 | (s,v)::r=>if s=skip then qIB skip a b r else
  match lk s a.env with
  | some w=>if v.beq w&&stillV a b v then qIB skip a b r else .slot s::qIB skip a b r
  | none=>qIB skip a b r
def qMC(x y:St)(o:Nat):Nat->List SV->List SV->List Pl
 | j,a::as,b::bs=>if a.beq b&&stillV x y a then qMC x y o (j+1) as bs else .cell o j::qMC x y o (j+1) as bs
 | _,_,_=>[]
def xQD(a b:St):List (Nat×List SV)->List Pl
 | []=>[]
 | (o,cs)::r=>(match lk o a.objs with|some ds=>qMC a b o 0 cs ds|none=>[])++xQD a b r
def qXB:Operand->List Nat
 | .tmp t=>[t]
 | _=>[]
def readsOp:Op->List Nat
 | .move x | .assign x | .box _ x | .load _ x | .nilCheck x | .unOp _ _ x | .convert _ _ x | .fieldAddr _ x _ | .field _ x _ | .extract x _=>qXB x
 | .pick a b c=>qXB a++qXB b++qXB c
 | .build _ l | .buildSlice _ _ l=>l.toList.flatMap fun p=>qXB p.2
 | .store _ x y | .binOp _ _ x y _ | .indexAddr _ x y | .index _ x y | .makeSlice _ x y=>qXB x++qXB y
 | .slice _ x a b c=>qXB x++(a.map qXB).getD []++(b.map qXB).getD []++(c.map qXB).getD []
 | .call c=>(match c.callee with | .value x=>qXB x | .invoke x _=>qXB x|_=>[])++c.args.toList.flatMap qXB
 | _=>[]
def zTC:Code->List Nat
 | .seq a b=>zTC a++zTC b
 | .region _ ops _=>ops.toList.flatMap fun o=>readsOp o.op
 | .cond c a b=>qXB c++zTC a++zTC b
 | .loop a=>zTC a
 | .block _ a=>zTC a
 | _=>[]
def isOwnX(st:St):SV->Bool
 | .x n=>match lk n st.vars with
  | some ⟨.own _,_⟩=>true
  | _=>false
 | _=>false
def yKC(st:St)(rs:List Nat):List (Nat×SV)->List (Nat×SV)
 | []=>[]
 | (s,v)::r=>if isOwnX st v && !rs.elem s&&st.env.any (fun p=>p.2.beq v&&rs.elem p.1) then del s (yKC st rs r) else (s,v)::yKC st rs r
def qIE(st:St):Pl->Option SV
 | .slot s=>lk s st.env
 | .cell o j=>do
  let cs <- lk o st.objs
  cs[j]?
def plPut(st:St)(v:SV):Pl->Option St
 | .slot s=>some { st with env:=upd s v st.env }
 | .cell o j=>do
  let cs <- lk o st.objs
  if j<cs.length then some { st with objs:=upd o (cs.set j v) st.objs } else none
inductive Cr where
 | int (k:IntKind)
 | bool
 | var (m:Nat) (vt:VT)
def Cr.sv(i:Nat):Cr->SV
 | .int k=>.i k (.v i)
 | .bool=>.b (.v i)
 | .var m _=>.x m
def qKC:VT->Bool
 | .own _=>true
 | .tags _=>true
 | _=>false
def xRB:VT->Bool
 | .set _=>true
 | .own _=>true
 | .tags _=>true
 | _=>false
def crOf(P:Program)(st s2:St)(m:Nat)(a b:SV):Option Cr :=
 match a,b with
 | .i k _,.i k' _=>if k=k' then some (.int k) else none
 | .b _,.b _=>some .bool
 | a,b =>
  match qZG P s2 b,qZG P st a with
  | some (some vt,_),_=>some (.var m vt)
  | _,some (some vt,_)=>some (.var m vt)
  | _,_=>none
def headS(P:Program)(s2:St)(lv:Nat):List Pl->St->Nat->Option (List (Pl×Cr)×St)
 | [],st,_=>some ([],st)
 | p::ps,st,j =>
  match qIE st p,qIE s2 p with
  | some a,some b =>
   match crOf P st s2 st.nx a b with
   | some cr =>
    let st1:=match cr with
     | .var _ vt=>match a with
      | .x n=>if qKC vt then qXJ st n else st
      | _=>st
     | _=>st
    let st2:=match cr with
     | .var m vt=>{ st1 with vars:=(m,⟨vt,.v (lv+2+j)⟩)::st1.vars,nx:=st1.nx+1 }
     | _=>st1
    match plPut st2 (cr.sv (lv+2+j)) p with
    | some st3 =>
     match headS P s2 lv ps st3 (j+1) with
     | some (cs,st4)=>some ((p,cr)::cs,st4)
     | none=>none
    | none=>none
   | none=>none
  | _,_=>none
def headH(lv:Nat):List (Pl×HK)->St->Nat->Option (List (Pl×Cr)×St)
 | [],st,_=>some ([],st)
 | (p,hk)::ps,st,j =>
  match qIE st p with
  | some a =>
   let cr:=match hk with
    | .int k=>Cr.int k
    | .bool=>.bool
    | .var vt=>.var st.nx vt
   let st1:=match hk with
    | .var vt=>match a with
     | .x n=>if qKC vt then qXJ st n else st
     | _=>st
    | _=>st
   let st2:=match hk with
    | .var vt=>{ st1 with vars:=(st1.nx,⟨vt,.v (lv+2+j)⟩)::st1.vars,nx:=st1.nx+1 }
    | _=>st1
   match plPut st2 (cr.sv (lv+2+j)) p with
   | some st3 =>
    match headH lv ps st3 (j+1) with
    | some (cs,st4)=>some ((p,cr)::cs,st4)
    | none=>none
   | none=>none
  | none=>none
def headT(B:St)(h:Hint):Option (List (Pl×Cr)×St):=headH B.lvl h.1 { B with lvl:=B.lvl+2+h.1.length+h.2,obl:=[] } 0
def zYK(P:Program)(st:St)(d:DE):List (Nat×SV)->Option SV
 | []=>none
 | (_,v)::r =>
  match v with
  | .x n=>match deAny P st (.x n) with
   | some e=>if e.beq d then some v else zYK P st d r
   | none=>zYK P st d r
  | .xc n j=>match deAny P st (.xc n j) with
   | some e=>if e.beq d then some v else zYK P st d r
   | none=>zYK P st d r
  | _=>zYK P st d r
def sliceTy(P:Program)(st:St):SV->Option TypeId
 | .x n=>do
  let vi <- lk n st.vars
  vi.vt.rest
 | .xc n j=>do
  let vi <- lk n st.vars
  let u <- vi.vt.rest
  (tys P u)[j]?
 | _=>none
mutual
def DE.shut(n:Nat):DE->Bool
 | .v i=>decide (i<n)
 | .k _=>true
 | .f _ as=>qCH n as
 | .fold lv s is _ _=>decide (lv<=n)&&s.shut n&&qCH n is
 | .wh lv _ is _=>decide (lv<=n)&&qCH n is
def qCH(n:Nat):List DE->Bool
 | []=>true
 | a::as=>a.shut n&&qCH n as
end
mutual
def SV.closed(n:Nat)(ms:List Nat):SV->Bool
 | .i _ e=>e.shut n
 | .b e=>e.shut n
 | .s e=>e.shut n
 | .fl e=>e.shut n
 | .c _=>true
 | .x m=>!ms.elem m
 | .xc m _=>!ms.elem m
 | .ra m _=>!ms.elem m
 | .oa _ _=>true
 | .osl _ _=>true
 | .ea m e _ _=>e.shut n && !ms.elem m
 | .agg l=>zVC n ms l
 | .tup l=>zVC n ms l
 | .w _ l=>zVC n ms l
def zVC(n:Nat)(ms:List Nat):List SV->Bool
 | []=>true
 | a::as=>a.closed n ms&&zVC n ms as
end
def carD(P:Program)(st:St):Cr->SV->Option (DE×Option Nat)
 | .int k,.i k' d=>if k=k' then some (d,none) else none
 | .bool,.b d=>some (d,none)
 | .var _ vt,.x n =>
  match lk n st.vars with
  | some vi=>if vi.vt=vt/\xRB vt=true then some (vi.de,some n) else none
  | none=>none
 | .var _ vt,.c .nils=>if xRB vt&&zFD P vt (.c .nils) then some (.k .nil,none) else none
 | .var _ vt,.c .nilm=>if xRB vt&&zFD P vt (.c .nilm) then some (.k .nil,none) else none
 | .var _ vt,.c .nilp=>if xRB vt&&zFD P vt (.c .nilp) then some (.k .nil,none) else none
 | _,_=>none
def qKJ(P:Program)(st:St):List (Pl×Cr)->Option (List (DE×Option Nat))
 | []=>some []
 | (p,cr)::r =>
  match qIE st p with
  | some b =>
   match carD P st cr b,qKJ P st r with
   | some d,some ds=>some (d::ds)
   | _,_=>none
  | none=>none
def xWA:List (Pl×Cr)->List (DE×Option Nat)->List Nat
 | (_,.var _ vt)::cs,(_,some n)::ds=>if qKC vt then n::xWA cs ds else xWA cs ds
 | _::cs,_::ds=>xWA cs ds
 | _,_=>[]
def qTB:List Nat->Bool
 | []=>true
 | n::r=>!r.elem n&&qTB r
def msOf:List (Pl×Cr)->List Nat
 | []=>[]
 | (_,.var m _)::r=>m::msOf r
 | _::r=>msOf r
def Pl.beq:Pl->Pl->Bool
 | .slot s,.slot t=>s==t
 | .cell o j,.cell p k=>o==p&&j==k
 | _,_=>false
def yRD(p:Pl):List (Pl×Cr)->Nat->Option (Nat×Cr)
 | [],_=>none
 | (q,cr)::r,i=>if p.beq q then some (i,cr) else yRD p r (i+1)
def zHH(lv:Nat)(ms taken:List Nat)(st:St):List (Nat×VI)->Bool
 | []=>true
 | (n,vi)::r=>(ms.elem n || decide (vi.vt = .dead) || (match lk n st.vars with
   | some vj=>decide (vj.vt=vi.vt)&&vj.de.beq vi.de&&vi.de.shut lv && !taken.elem n
   | none=>false))&&zHH lv ms taken st r
def zHJ(lv:Nat)(ms:List Nat)(cars:List (Pl×Cr))(st:St):List (Nat×SV)->Bool
 | []=>true
 | (s,v)::r=>(match yRD (.slot s) cars 0 with
   | some (j,cr)=>v.beq (cr.sv (lv+2+j))
   | none=>match lk s st.env with
    | some u=>u.beq v&&v.closed lv ms
    | none=>false)&&zHJ lv ms cars st r
def yZC(lv:Nat)(ms:List Nat)(cars:List (Pl×Cr))(o:Nat):Nat->List SV->List SV->Bool
 | _,[],[]=>true
 | i,v::vs,u::us=>(match yRD (.cell o i) cars 0 with
   | some (j,cr)=>v.beq (cr.sv (lv+2+j))
   | none=>u.beq v&&v.closed lv ms)&&yZC lv ms cars o (i+1) vs us
 | _,_,_=>false
def qIG(lv:Nat)(ms:List Nat)(cars:List (Pl×Cr))(st:St):List (Nat×List SV)->Bool
 | []=>true
 | (o,cs)::r=>(match lk o st.objs with
   | some us=>yZC lv ms cars o 0 cs us
   | none=>false)&&qIG lv ms cars st r
def lpBeq(a b:Lp):Bool:=a.row==b.row&&a.src.beq b.src&&a.el==b.el&&a.lvl==b.lvl
def qVE(lv:Nat)(ms:List Nat)(st:St):List Lp->Bool
 | []=>true
 | l::r=>st.loops.any (fun l'=>lpBeq l' l)&&decide (l.lvl<lv)&&l.src.closed lv ms && !ms.elem l.row&&qVE lv ms st r
def yGC(lv:Nat)(h:St):List (Pl×Cr)->Nat->Bool
 | [],_=>true
 | (_,.var m vt)::r,j=>(match lk m h.vars with
   | some vi=>decide (vi.vt=vt)&&vi.de.beq (.v (lv+2+j))
   | none=>false)&&yGC lv h r (j+1)
 | _::r,j=>yGC lv h r (j+1)
def fits(P:Program)(lv:Nat)(cars:List (Pl×Cr))(st h:St):Option (List DE) :=
 match qKJ P st cars with
 | some ds =>
  if qTB (xWA cars ds)&&zHH lv (msOf cars) (xWA cars ds) st h.vars&&zHJ lv (msOf cars) cars st h.env&&qIG lv (msOf cars) cars st h.objs&&qVE lv (msOf cars) st h.loops&&st.nt==h.nt then
   some (ds.map (·.1)) else none
 | none=>none
abbrev ExecF:=List Code->St->Option (List Out)
def qKD{α:Type}(e:DE):List (List (DE×Bool)×α)->Option (List (List (DE×Bool)×α)×List (List (DE×Bool)×α))
 | []=>some ([],[])
 | (pc,s)::r =>
  match pc,qKD e r with
  | (e',b)::pc',some (t,f)=>if e.beq e' then (if b then some ((pc',s)::t,f) else some (t,(pc',s)::f)) else none
  | _,_=>none
def gath(P:Program)(st0:St):Nat->List (List (DE×Bool)×St)->Option St
 | _,[(_,s)]=>some s
 | n+1,((e,b)::pc,s)::r =>
  match qKD e (((e,b)::pc,s)::r) with
  | some (t,[])=>gath P st0 n t
  | some ([],f)=>gath P st0 n f
  | some (t,f) =>
   match gath P st0 n t,gath P st0 n f with
   | some s1,some s2=>zAG P e st0 s1 s2
   | _,_=>none
  | none=>none
 | _,_=>none
def mkIf(e a b:DE):DE :=
 match a,b with
 | .k (.bool true),.k (.bool false)=>e
 | .k (.bool false),.k (.bool true)=>mkf .not [e]
 | a,b=>.f .ite [e,a,b]
def yJK:Nat->List (List (DE×Bool)×Bool)->Option DE
 | n,l =>
  if l.all (·.2) then some (.k (.bool true)) else
  if l.all (!·.2) then some (.k (.bool false)) else
  match n,l with
  | n+1,((e,b)::pc,x)::r =>
   match qKD e (((e,b)::pc,x)::r) with
   | some (t,f) =>
    match yJK n t,yJK n f with
    | some a,some b=>some (mkIf e a b)
    | _,_=>none
   | none=>none
  | _,_=>none
def xYB:Ex->Bool
 | .norm=>true
 | _=>false
def xZD(outs:List Out):List (List (DE×Bool)×St):=(outs.filter fun o=>xYB o.ex).map fun o=>(o.pc,o.st)
def zAH(outs:List Out):List (List (DE×Bool)×St):=(outs.filter fun o=>!xYB o.ex).map fun o=>(o.pc,o.st)
def yZG:List Out->Option (Option Ex)
 | []=>some none
 | o::r =>
  match yZG r with
  | none=>none
  | some none=>some (if xYB o.ex then none else some o.ex)
  | some (some x)=>if xYB o.ex || decide (o.ex=x) then some (some x) else none
def yJE(lv:Nat)(s:St):List (Nat×VI)->Option (List (Nat×VI))
 | []=>some []
 | (n,_)::r =>
  match lk n s.vars,yJE lv s r with
  | some vi,some r'=>some ((n,if vi.de.shut lv then vi else ⟨.dead,.k .nil⟩)::r')
  | _,_=>none
def yIE(lv:Nat)(s:St):List (Nat×List SV)->Option (List (Nat×List SV))
 | []=>some []
 | (o,_)::r =>
  match lk o s.objs,yIE lv s r with
  | some cs,some r'=>if zVC lv [] cs then some ((o,cs)::r') else none
  | _,_=>none
def xME(lv:Nat):List (Nat×SV)->List (Nat×SV)
 | []=>[]
 | (s,v)::r=>if v.closed lv [] then (s,v)::xME lv r else del s (xME lv r)
def lpIn(l:Lp):List Lp->Bool
 | []=>false
 | x::r=>(x.row==l.row&&x.src.beq l.src&&x.el==l.el&&x.lvl==l.lvl) || lpIn l r
def qOL(B s:St)(obl:List Ob):Option St :=
 match yJE B.lvl s B.vars,yIE B.lvl s B.objs with
 | some vs,some os =>
  if B.loops.all (fun l=>lpIn l s.loops&&decide (l.lvl<B.lvl)&&l.src.closed B.lvl [])&&s.nt==B.nt then
   some { env:=xME B.lvl s.env,vars:=vs,objs:=os,loops:=B.loops,obl:=obl,lvl:=B.lvl,nx:=s.nx,nt:=B.nt }
  else none
 | _,_=>none
def zVL(i:Nat)(x:Ex):Ex:=if x = .exit i then .norm else x
def yBH(lv:Nat)(e:TypeId)(src:SV)(ti r:Nat)(h0:St):Option St :=
 match newV h0 ⟨.row e,.v (lv+1)⟩ r with
 | some s1=>if src.men r then none else some { s1 with env:=upd ti (.i .i64 (.v lv)) s1.env,loops:=⟨r,src,e,lv⟩::s1.loops,nx:=r+1 }
 | none=>none
def Cr.post(lv:Nat)(d:DE)(inits bodies:List DE)(j:Nat):Cr->SV
 | .int k=>.i k (.fold lv d inits bodies j)
 | .bool=>.b (.fold lv d inits bodies j)
 | .var m _=>.x m
def xRA(lv:Nat)(d:DE)(inits bodies:List DE):List (Pl×Cr)->Nat->List (Nat×VI)->List (Nat×VI)
 | [],_,vs=>vs
 | (_,.var m vt)::r,j,vs=>upd m ⟨vt,.fold lv d inits bodies j⟩ (xRA lv d inits bodies r (j+1) vs)
 | _::r,j,vs=>xRA lv d inits bodies r (j+1) vs
def xWB(lv:Nat)(d:DE)(inits bodies:List DE)(cars:List (Pl×Cr)):List (Nat×SV)->List (Nat×SV)
 | []=>[]
 | (s,v)::r=>(s,match yRD (.slot s) cars 0 with
   | some (j,cr)=>cr.post lv d inits bodies j
   | none=>v)::xWB lv d inits bodies cars r
def zSB(lv:Nat)(d:DE)(inits bodies:List DE)(cars:List (Pl×Cr))(o:Nat):Nat->List SV->List SV
 | _,[]=>[]
 | i,v::r=>(match yRD (.cell o i) cars 0 with
   | some (j,cr)=>cr.post lv d inits bodies j
   | none=>v)::zSB lv d inits bodies cars o (i+1) r
def yRB(lv:Nat)(d:DE)(inits bodies:List DE)(cars:List (Pl×Cr)):List (Nat×List SV)->List (Nat×List SV)
 | []=>[]
 | (o,cs)::r=>(o,zSB lv d inits bodies cars o 0 cs)::yRB lv d inits bodies cars r
def isSV:Option SV->SV->Bool
 | some v,w=>v.beq w
 | none,_=>false
def qCB(P:Program)(B h0 h:St)(cars:List (Pl×Cr))(d:DE)(lp:LoopP)(outs:List Out):Option (List Out) :=
 let lv:=B.lvl
 match fits P lv cars B h0 with
 | some inits =>
  match yZG outs with
  | some none =>
   if h0.lvl==lv+2+cars.length then
    match gath P h 12 (xZD outs) with
    | some s2 =>
     if isSV (lk lp.ti s2.env) (.i lp.kd (.v lv)) then
      match fits P lv cars s2 h0 with
      | some bodies =>
       some [⟨[],.norm,{ env:=xWB lv d inits bodies cars h0.env,vars:=xRA lv d inits bodies cars 0 h0.vars,objs:=yRB lv d inits bodies cars h0.objs,loops:=h0.loops,obl:=.all d inits bodies s2.obl::B.obl,lvl:=lv,nx:=s2.nx,nt:=h0.nt }⟩]
      | none=>none
     else none
    | none=>none
   else none
  | some (some x) =>
   if h0.lvl==lv+2+cars.length+1 then
    match gath P h 12 (xZD outs),gath P h 12 (zAH outs),yJK 20 (outs.map fun o=>(o.pc,!xYB o.ex)) with
    | some s2,some s3,some stop =>
     if isSV (lk lp.ti s2.env) (.i lp.kd (.v lv)) then
      match fits P lv cars s2 h0 with
      | some bodies =>
       let inits':=inits++[.k (.bool false)]
       let bodies':=bodies++[.f .ite [.v (lv+2+cars.length),.k (.bool true),stop]]
       let obl':=.all d inits' bodies' [.when (.v (lv+2+cars.length)) false (zWB stop s3.obl s2.obl)]::B.obl
       match qOL B s3 obl' with
       | some W =>
        some [⟨[(.fold lv d inits' bodies' cars.length,false)],.norm,{ env:=xWB lv d inits' bodies' cars h0.env,vars:=xRA lv d inits' bodies' cars 0 h0.vars,objs:=yRB lv d inits' bodies' cars h0.objs,loops:=h0.loops,obl:=obl',lvl:=lv,nx:=s2.nx,nt:=h0.nt }⟩,
         ⟨[(.fold lv d inits' bodies' cars.length,true)],zVL lp.bid x,W⟩]
       | none=>none
      | none=>none
     else none
    | _,_,_=>none
   else none
  | none=>none
 | none=>none
def yYE(P:Program)(B h0 h:St)(cars:List (Pl×Cr))(d:DE)(lp:LoopP)(outs:List Out):Option (List Out):=qCB P B h0 h cars d lp outs
def xWE(B h0:St)(cars:List (Pl×Cr))(tn:SV)(lp:LoopP):Bool :=
 h0.obl.isEmpty&&qTB (msOf cars)&&yGC B.lvl h0 cars 0 &&
  (lk lp.ti h0.env).isNone&&lp.sl.all (fun s=>(lk s h0.env).isNone&&decide (s<h0.nt))&&isSV (lk lp.tn h0.env) tn &&
  decide (lp.ti<h0.nt)&&zKE B.vars h0.vars (msOf cars)&&zKE B.objs h0.objs []
def zAL(P:Program)(exec:ExecF)(B h0:St)(cars:List (Pl×Cr))(src:SV)(d:DE)(t e:TypeId)(lp:LoopP):Option (List Out) :=
 match svT P h0 t src,P.info? e with
 | some d',some i =>
  if (!isU8 P e || i.size==1)&&d'.beq d&&d.shut B.lvl&&src.closed B.lvl (msOf cars)&&xWE B h0 cars (.i .i64 (.f .len [d])) lp&&decide (lp.kd = .i64) then
   match yBH B.lvl e src lp.ti h0.nx h0 with
   | some h =>
    match exec [.block lp.inner lp.body] h with
    | some outs=>yYE P B h0 h cars d lp outs
    | none=>none
   | none=>none
  else none
 | _,_=>none
def xTE(kd:IntKind)(lv ti:Nat)(h0:St):St:={ h0 with env:=upd ti (.i kd (.v lv)) h0.env }
def yTH(P:Program)(exec:ExecF)(B h0:St)(cars:List (Pl×Cr))(e:DE)(lp:LoopP):Option (List Out) :=
 if e.shut B.lvl&&xWE B h0 cars (.i lp.kd e) lp then
  match exec [.block lp.inner lp.body] (xTE lp.kd B.lvl lp.ti h0) with
  | some outs=>yYE P B h0 (xTE lp.kd B.lvl lp.ti h0) cars (.f .iota [e]) lp outs
  | none=>none
 else none
def extra(outs:List Out):Nat:=if outs.all (fun o=>xYB o.ex) then 0 else 1
def xPK(P:Program)(skip:Nat)(B pr:St)(outs:List Out):Option (List (Pl×Cr)×St) :=
 match gath P pr 12 (xZD outs) with
 | some s1 =>
  let pls:=qIB skip s1 B B.env++xQD s1 B B.objs
  headS P s1 B.lvl pls { B with lvl:=B.lvl+2+pls.length+extra outs,obl:=[],nx:=s1.nx } 0
 | none=>none
def headN(P:Program)(hn:Nat->Nat->Nat->Option Hint)(exec:ExecF)(B:St)(lp:LoopP):Option (List (Pl×Cr)×St) :=
 match hn B.nt lp.bid B.lvl with
 | some h=>headT B h
 | none =>
 match exec [.block lp.inner lp.body] (xTE lp.kd B.lvl lp.ti { B with lvl:=B.lvl+2,obl:=[] }) with
 | some outs=>xPK P lp.ti B (xTE lp.kd B.lvl lp.ti { B with lvl:=B.lvl+2,obl:=[] }) outs
 | none=>none
def headOf(P:Program)(hn:Nat->Nat->Nat->Option Hint)(exec:ExecF)(B:St)(src:SV)(e:TypeId)(lp:LoopP):Option (List (Pl×Cr)×St) :=
 match hn B.nt lp.bid B.lvl with
 | some h=>headT B h
 | none =>
 match yBH B.lvl e src lp.ti B.nx { B with lvl:=B.lvl+2,obl:=[] } with
 | some probe =>
  match exec [.block lp.inner lp.body] probe with
  | some outs=>xPK P lp.ti B probe outs
  | none=>none
 | none=>none
def loopS(P:Program)(hn:Nat->Nat->Nat->Option Hint)(exec:ExecF)(st0:St)(lp:LoopP):Option (List Out) :=
 match lk lp.ti st0.env,lk lp.tn st0.env with
 | some (.i .i64 (.k (.int 0))),some (.i .i64 (.f .len [d])) =>
  match zYK P st0 d st0.env with
  | some src =>
   match sliceTy P (settle st0 src) src with
   | some t =>
    match P.underlying t with
    | some (.slice e) =>
     match headOf P hn exec { settle st0 src with env:=yKC st0 (zTC lp.body) (qVA (lp.ti::lp.sl) (settle st0 src).env) } src e lp with
     | some (cars,h0)=>zAL P exec { settle st0 src with env:=yKC st0 (zTC lp.body) (qVA (lp.ti::lp.sl) (settle st0 src).env) } h0 cars src d t e lp
     | none=>none
    | _=>none
   | none=>none
  | none=>none
 | some (.i ka (.k (.int 0))),some (.i kb e) =>
  if ka=lp.kd/\kb=lp.kd then
  match headN P hn exec { st0 with env:=yKC st0 (zTC lp.body) (qVA (lp.ti::lp.sl) st0.env) } lp with
  | some (cars,h0)=>yTH P exec { st0 with env:=yKC st0 (zTC lp.body) (qVA (lp.ti::lp.sl) st0.env) } h0 cars e lp
  | none=>none
  else none
 | _,_=>none
def whileOk(i:Nat):List Out->Bool
 | []=>true
 | o::r=>(xYB o.ex || decide (o.ex = .exit i))&&whileOk i r
def zUC(lv:Nat):Nat->List DE
 | 0=>[]
 | n+1=>zUC lv n++[.v (lv+2+n)]
def loopWB(P:Program)(exec:ExecF)(B:St)(i:Nat)(b:Code):Option St :=
 let lv:=B.lvl
 match exec [b] { B with lvl:=lv+2,obl:=[] } with
 | none=>none
 | some outs0 =>
  match gath P { B with lvl:=lv+2,obl:=[] } 12 (xZD outs0) with
  | none=>none
  | some s1 =>
   let pls:=qIB B.nt s1 B B.env++xQD s1 B B.objs
   match headS P s1 lv pls { B with lvl:=lv+2+pls.length,obl:=[],nx:=s1.nx } 0 with
   | none=>none
   | some (cars,h0) =>
    match exec [b] h0 with
    | none=>none
    | some outs =>
     if whileOk i outs&&h0.obl.isEmpty&&qTB (msOf cars)&&yGC lv h0 cars 0&&h0.lvl==lv+2+cars.length&&zKE B.vars h0.vars (msOf cars)&&zKE B.objs h0.objs [] then
      match gath P h0 12 (xZD outs),gath P h0 12 (zAH outs),yJK 20 (outs.map fun o=>(o.pc,xYB o.ex)) with
      | some s2,some s3,some go =>
       match fits P lv cars B h0,fits P lv cars s2 h0,fits P lv cars s3 h0 with
       | some inits,some bodies,some ends =>
        if xXB ends (zUC lv cars.length) then
         let n:=DE.wh lv go inits bodies
         let d:=DE.f .iota [n]
         some { env:=xWB lv d inits bodies cars h0.env,vars:=xRA lv d inits bodies cars 0 h0.vars,objs:=yRB lv d inits bodies cars h0.objs,loops:=h0.loops,obl:=.term lv go inits bodies :: .all (.f .iotaS [n]) inits bodies (zWB go s2.obl s3.obl)::B.obl,lvl:=lv,nx:=max s2.nx s3.nx,nt:=h0.nt }
        else none
       | _,_,_=>none
      | _,_,_=>none
     else none
def loopW(P:Program)(exec:ExecF)(st0:St)(i:Nat)(b:Code):Option St:=loopWB P exec { st0 with env:=yKC st0 (zTC b) st0.env } i b
def big(dp:Nat):Nat:=4096 ^ dp
def resS(P:Program)(st:St):ResultVar->Option SV
 | .tmp t=>lk t st.env
 | .cell a t=>do
  let p <- lk a st.env
  yRI P st t p
def xOI(P:Program)(st:St):List ResultVar->Option (List SV)
 | []=>some []
 | r::rs=>do
  let a <- resS P st r
  let as <- xOI P st rs
  some (a::as)
def qJC:Nat->List SV->List (Nat×SV)
 | _,[]=>[]
 | i,a::as=>(i,a)::qJC (i+1) as
mutual
def yCG(st:St):SV->Bool
 | .x n=>(lk n st.vars).isSome
 | .xc n _=>(lk n st.vars).isSome
 | .ra n _=>(lk n st.vars).isSome
 | .oa o _=>(lk o st.objs).isSome
 | .osl o _=>(lk o st.objs).isSome
 | .ea n _ _ _=>(lk n st.vars).isSome
 | .agg l=>xJC st l
 | .tup l=>xJC st l
 | .w _ l=>xJC st l
 | _=>true
def xJC(st:St):List SV->Bool
 | []=>true
 | a::as=>yCG st a&&xJC st as
end
def zGF:List Out->Bool
 | []=>true
 | o::r=>(match o.ex with | .norm=>true | .ret=>true|_=>false)&&zGF r
def asPc(o:Out):Pc×St:=(o.pc.map fun p=>(0,p.1,p.2),o.st)
def tupS:List SV->SV
 | [r]=>r
 | rs=>.tup rs
def qCG(C:Cfg)(exec:ExecF)(f:FuncId)(args:List SV)(st:St):Option (SV×St) :=
 match C.P.funcs[f]? with
 | none=>none
 | some fn =>
  match fn.body with
  | none=>none
  | some body =>
   if args.length<=fn.ntmps/\st.env.all (fun p=>yCG st p.2) then
    match exec [body] { st with env:=qJC 0 args,nt:=fn.ntmps,obl:=[] } with
    | none=>none
    | some outs =>
     if zGF outs then
      match yLE C.P { st with env:=qJC 0 args,nt:=fn.ntmps,obl:=[] } 12 (outs.map asPc) with
      | none=>none
      | some s =>
       match xOI C.P s fn.results.toList with
       | none=>none
       | some rs=>some (tupS rs,{ s with env:=st.env,nt:=st.nt,obl:=s.obl++st.obl })
     else none
   else none
def zED(st0 st:St)(o:Nat):List Nat:=(st.objs.filter fun p=>(lk p.1 st0.objs).isNone&&ySF o p.2).map (·.1)
def xOH(P:Program)(st0:St)(t:TypeId)(o k:Nat)(st:St):Option St :=
 match lk o st0.objs,lk o st.objs,P.underlying t with
 | none,some cs,some (.slice e) =>
  match P.info? e with
  | some i =>
   if isU8 P e=false/\cs.length=k*i.size/\k<=1000 then
    match xTI P (settles st cs) e i.size k cs with
    | some ds =>
     match newV { settles st cs with objs:=qVA (o::zED st0 st o) st.objs } ⟨.set t,.f .mklist ds⟩ st.nx with
     | some s=>some { s with nx:=st.nx+1 }
     | none=>none
    | none=>none
   else none
  | none=>none
 | _,_,_=>none
def xIE(P:Program)(st0:St):List TypeId->List SV->List SV->St->Option (List SV×St)
 | t::ts,done,s::l,st =>
  match s with
  | .osl o k =>
   if mens st.nx (done++l) then none else
   match xOH P st0 t o k st with
   | some st1=>xIE P st0 ts (done++[.x st.nx]) l st1
   | none=>none
  | s=>xIE P st0 ts (done++[s]) l st
 | [],done,[],st=>some (done,st)
 | _,_,_,_=>none
def isOsl:SV->Bool
 | .osl _ _=>true
 | _=>false
def restR(P:Program)(st0:St)(t:TypeId)(s:SV)(st:St):Option (SV×St) :=
 match s with
 | .agg l =>
  if l.any isOsl then
   match xIE P st0 (tys P t) [] l st with
   | some (l',st')=>some (.agg l',st')
   | none=>none
  else none
 | _=>none
def xVD(C:Cfg)(exec:ExecF)(f:FuncId)(args:List SV)(st:St):Option (SV×St) :=
 match qCG C exec f args st with
 | some (s,st') =>
  match C.P.funcs[f]? with
  | some fn =>
   match restR C.P st (fn.resultTypes.getD 0 0) s st' with
   | some r=>some r
   | none=>some (s,st')
  | none=>none
 | none=>none
def xOD(f:St->Option (List Out)):List Out->Option (List Out)
 | []=>some []
 | o::r =>
  match xOD f r with
  | none=>none
  | some r' =>
   match o.ex with
   | .norm =>
    match f o.st with
    | some l=>some (l.map (fun q=>⟨o.pc++q.pc,q.ex,q.st⟩)++r')
    | none=>none
   | _=>some (o::r')
def xGB(i:Nat):List Out->List Out
 | []=>[]
 | o::r=>(if o.ex = .exit i then ⟨o.pc,.norm,o.st⟩ else o)::xGB i r
def xWH(run:List Code->St->Option (List Out))(c:Code)(again:List Out->Option (List Out)):List Out->Option (List Out)
 | []=>some []
 | o::r =>
  match xWH run c again r with
  | none=>none
  | some r' =>
   match o.ex with
   | .goto l =>
    match findLabel c l with
    | some rest =>
     match run [rest] o.st with
     | some o2 =>
      match again o2 with
      | some o3=>some (o3.map (fun q=>⟨o.pc++q.pc,q.ex,q.st⟩)++r')
      | none=>none
     | none=>none
    | none=>none
   | _=>some (o::r')
def xXH(run:List Code->St->Option (List Out))(c:Code):Nat->List Out->Option (List Out)
 | 0=>fun _=>none
 | k+1=>xWH run c (xXH run c k)
def joinS(P:Program)(d:DE)(st:St):List Out->List Out->Option St
 | [⟨[],.norm,s1⟩],[⟨[],.norm,s2⟩]=>zAG P d st s1 s2
 | _,_=>none
def joinF(C:Cfg)(d:DE)(st:St)(o1 o2:List Out):Option St:=if flagN C 999997 st then none else joinS C.P d st o1 o2
def qMF(run:List Code->St->Option (List Out))(b:Code):Nat->St->Option (List Out)
 | 0,_=>none
 | k+1,st =>
  match run [b] st with
  | some o=>xOD (qMF run b k) o
  | none=>none
def deadOk(C:Cfg):Bool:=(C.hint 0 999999 0).isSome
def zOG(d:DE):Ob:=.when d true [.nz (.k (.int 0))]
def exec(C:Cfg):Nat->Nat->List Code->St->Option (List Out)
 | 0,_,_,_=>none
 | n+1,dp,l,st =>
  match l with
  | []=>some [⟨[],.norm,st⟩]
  | c::r =>
   match c with
   | .skip=>exec C n dp r st
   | .seq a b=>exec C n dp (a::b::r) st
   | .ret=>some [⟨[],.ret,st⟩]
   | .exit i=>some [⟨[],.exit i,st⟩]
   | .region _ ops draw =>
    match xKF C (xVD C (exec C n (dp-1))) ops draw (big dp) st with
    | some st'=>exec C n dp r st'
    | none =>
     match draw,zOD C (xVD C (exec C n (dp-1))) ops (big dp) st with
     | true,some (s1,s2) =>
      match exec C n dp r s1 with
      | some [⟨[],.norm,t1⟩] =>
       match exec C n dp r { s2 with nx:=max t1.nx s2.nx } with
       | some [⟨[],.norm,t2⟩] =>
        match joinB C.P st t1 t2 with
        | some m=>some [⟨[],.norm,m⟩]
        | none=>none
       | _=>none
      | _=>none
     | _,_=>none
   | .cond c t e =>
    match opd st c with
    | some (.b (.k (.bool b)))=>exec C n dp ((if b then t else e)::r) st
    | some (.b d) =>
     match exec C n dp [t] { st with obl:=[] } with
     | none=>none
     | some o1 =>
      match exec C n dp [e] { st with obl:=[],nx:=o1.foldl (fun m o=>max m o.st.nx) st.nx } with
      | none=>none
      | some o2 =>
       match joinF C d st o1 o2 with
       | some m=>exec C n dp r m
       | none =>
        match xOD (exec C n dp r) (o1.map (fun o=>⟨(d,true)::o.pc,o.ex,{ o.st with obl:=o.st.obl++st.obl }⟩)++o2.map (fun o=>⟨(d,false)::o.pc,o.ex,{ o.st with obl:=o.st.obl++st.obl }⟩)) with
        | some l=>some l
        | none=>if deadOk C then xOD (exec C n dp r) (o2.map (fun o=>⟨o.pc,o.ex,{ o.st with obl:=o.st.obl++(zOG d::st.obl) }⟩)) else none
    | _=>none
   | .block i b =>
    match qZK st (.block i b) with
    | some lp =>
     match loopS C.P C.hint (exec C n dp) st lp with
     | some o=>xOD (exec C n dp r) o
     | none=>none
    | none =>
     match b with
     | .loop b' =>
      if xVE b' then
       match qMF (exec C n dp) b' 4 st with
       | some o=>xOD (exec C n dp r) (xGB i o)
       | none=>none
      else
      match loopW C.P (exec C n dp) st i b' with
      | some st'=>exec C n dp r st'
      | none =>
       match exec C n dp [b'] st with
       | some o=>if o.all (fun q=>decide (q.ex = .exit i)) then xOD (exec C n dp r) (xGB i o) else none
       | none=>none
     | b =>
      match exec C n dp [b] st with
      | some o=>xOD (exec C n dp r) (xGB i o)
      | none=>none
   | .label _=>exec C n dp r st
   | .goto l=>some [⟨[],.goto l,st⟩]
   | .scope b =>
    match exec C n dp [b] st with
    | some o =>
     match xXH (exec C n dp) b 4 o with
     | some o'=>xOD (exec C n dp r) o'
     | none=>none
    | none=>none
   | _=>none
end Go.Dx
namespace Go.Dx
open Go
structure Gh where
 rv:Nat->Value
 rb:Nat->Nat
 rh:Nat->Nat×Nat
 ex:Nat->Prop
def qSC(k:Nat):Value->Value
 | .slice (some a) _ _=>.pointer (some ⟨a.block,a.off+k,none⟩)
 | _=>.pointer (some ⟨0,k,none⟩)
theorem yEI(k:Nat)(v:Value):∃a,qSC k v = .pointer a:=by
 unfold qSC;split
 ·exact⟨_,rfl⟩
 ·exact⟨_,rfl⟩
theorem yDD(v:Value):∃b o,∀k,qSC k v = .pointer (some ⟨b,o+k,none⟩):=by
 unfold qSC;split
 ·exact⟨_,_,fun k=>rfl⟩
 ·exact⟨0,0,fun k=>by rw[Nat.zero_add]⟩
mutual
noncomputable def SV.den(X:Nat->List D->D)(J:List D)(g:Gh):SV->Value
 | .i k e=>.int k (e.eval X J).asInt
 | .b e=>.bool (e.eval X J).asBool
 | .s e=>.string ⟨(e.eval X J).asStr.toArray⟩
 | .fl e=>.float .f64 (e.eval X J).asNat
 | .c c=>c.den
 | .x n=>g.rv n
 | .xc n j=>(g.rv n).cells.getD j undef
 | .agg l=>.agg (dens X J g l).toArray
 | .oa o off=>.pointer (some ⟨g.rb o,off,none⟩)
 | .osl o n=>.slice (some ⟨g.rb o,0,none⟩) n n
 | .ea n e off sz=>qSC ((e.eval X J).asInt.toNat*sz+off) (g.rv n)
 | .ra n off=>.pointer (some ⟨(g.rh n).1,(g.rh n).2+off,none⟩)
 | .tup l=>.tuple (dens X J g l).toArray
 | .w k l=>k.den (dens X J g l)
noncomputable def dens(X:Nat->List D->D)(J:List D)(g:Gh):List SV->List Value
 | []=>[]
 | a::as=>a.den X J g::dens X J g as
end
theorem zSA(X:Nat->List D->D)(J:List D)(g:Gh):∀l,dens X J g l=l.map (SV.den X J g)
 | []=>by simp[dens]
 | a::as=>by simp[dens,zSA X J g as]
def SV.okk(X:Nat->List D->D)(J:List D):SV->Prop
 | .i k e=>∃n,e.eval X J = .int n/\(Lit.int k n).wf=true
 | .b e=>∃b,e.eval X J = .bool b
 | .s e=>∃s,e.eval X J = .str s/\s.length<=maxLen
 | .fl e=>∃n,e.eval X J = .flt n
 | _=>True
mutual
def SV.ok(X:Nat->List D->D)(J:List D):SV->Prop
 | .agg l=>oks X J l
 | .tup l=>oks X J l
 | .w _ l=>oks X J l
 | s=>s.okk X J
def oks(X:Nat->List D->D)(J:List D):List SV->Prop
 | []=>True
 | a::as=>a.ok X J/\oks X J as
end
theorem yFA{X:Nat->List D->D}{J:List D}:∀ {l:List SV},oks X J l ↔ ∀a∈l,a.ok X J
 | []=>by simp[oks]
 | a::as=>by simp[oks,yFA (l:=as)]
inductive OwnD (P:Program) (ok:Nat->Prop) (w:World) (e:TypeId) (size:Nat) (v:Value):Nat->List Value->D->Prop where
 | nil (hv:v = .slice none 0 0):OwnD P ok w e size v 0 [] .nil
 | bytes {s:List UInt8} (hv:v.ownBlock≠none) (he:P.underlying e=some (.int .u8)) (hs:size=1):OwnD P ok w e size v s.length (s.map fun x=>.int .u8 x.toNat) (.bytes s)
 | list {vs:List Value} {ds:List D} (hv:v.ownBlock≠none) (he:P.underlying e≠some (.int .u8)) (hlen:vs.length=ds.length) (hsz:∀u∈vs,u.cells.size=size)
   (hr:∀(j:Nat) (u:Value) (d:D),vs[j]? = some u->ds[j]? = some d->Rep P ok w e u d):OwnD P ok w e size v ds.length (vs.flatMap fun u=>u.cells.toList) (.list ds)
def ySA(P:Program)(ok:Nat->Prop)(w:World)(t:TypeId)(v:Value)(d:D):Prop :=
 ∃e i n xs,P.underlying t=some (.slice e)/\P.info? e=some i/\w.ownsRow 0 e i.size v n xs/\OwnD P ok w e i.size v n xs d
inductive TagsAt (P:Program) (ok:Nat->Prop) (w:World) (t:TypeId):Value->D->Prop where
 | nil {k e} (hu:P.underlying t=some (.map k e)):TagsAt P ok w t (.map none) .nil
 | map {k e r clock} {es:Array MapEntry} {ds:List (Int×D)} (hu:P.underlying t=some (.map k e)) (hk:P.underlying k=some (.int .u32))
   (hh:w.heap[r]? = some (.map es clock))
   (hkeys:(es.toList.map (·.key)).Perm (ds.map fun d=>Value.int .u32 d.1))
   (hkw:∀d∈ds,(Lit.int .u32 d.1).wf=true)
   (hs:(ds.map (·.1)).Pairwise (· < ·))
   (hborn:(es.toList.map (·.born)).Nodup) (hclock:∀x∈es.toList,x.born<clock)
   (hr:∀x∈es.toList,∀n d,x.key = .int .u32 n->(n,d)∈ds->Rep P ok w e x.val d):TagsAt P ok w t (.map (some r)) (.map ds)
def zGA:VT->Value->Option Nat
 | .own _,v=>v.ownBlock
 | .tags _,.map r=>r
 | _,_=>none
def zEB(P:Program)(ok:Nat->Prop)(w:World)(vt:VT)(v:Value)(home:Nat×Nat)(d:D):Prop :=
 match vt with
 | .set t=>Rep P ok w t v d
 | .row t=>Rep P ok w t v d/\ok home.1/\xLA w home.1 home.2 v.cells.toList
 | .own t=>ySA P ok w t v d
 | .tags t=>TagsAt P ok w t v d
 | .dead=>True
 | .gi=>(∃t x,v = .iface t x/\d = .bool true)∨(v = .nilIface/\d = .bool false)
def Actv(st:St)(g:Gh)(b:Nat):Prop :=
 (∃o cs,lk o st.objs=some cs/\g.rb o=b)∨(∃n vi,lk n st.vars=some vi/\zGA vi.vt (g.rv n)=some b)
def okOf(st:St)(g:Gh)(w:World)(b:Nat):Prop:=b<w.heap.size /\ ¬Actv st g b /\ ¬g.ex b
def qGC(X:Nat->List D->D)(J:List D)(g:Gh)(w:World)(o:Nat)(cs:List SV):Prop :=
 (∃t,w.heap[g.rb o]? = some (.cells (dens X J g cs).toArray t (0,0)))/\(∀v∈dens X J g cs,v.oneCell'=true)/\oks X J cs
def LpOk(P:Program)(X:Nat->List D->D)(J:List D)(g:Gh)(lp:Lp):Prop :=
 ∃b off len cap k i,lp.src.den X J g = .slice (some ⟨b,off,none⟩) len cap/\J[lp.lvl]? = some (.int (k:Nat))/\k<len/\P.info? lp.el=some i/\g.rh lp.row=(b,off+k*i.size)
structure Base where
 w:World
 M:Nat->Prop
 ex:Nat->Prop
def Base.Free(w0:Base)(b:Nat):Prop:=w0.w.heap.size<=b∨w0.M b
def GlOk(X:Nat->List D->D)(w0:Base):Prop:=∀k:Nat,(X 399 [.int (k:Nat)]).asInt≠0 -> ¬w0.M k /\ ∃t x ty fz,w0.w.heap[k]? = some (.cells #[.iface t x] ty fz)
structure Mem (P:Program) (X:Nat->List D->D) (w0:Base) (J:List D) (st:St) (g:Gh) (w:World):Prop where
 va:∀n vi,lk n st.vars=some vi->zEB P (okOf st g w) w vi.vt (g.rv n) (g.rh n) (vi.de.eval X J)
 ob:∀o cs,lk o st.objs=some cs->qGC X J g w o cs
 oo:∀o o' c c',lk o st.objs=some c->lk o' st.objs=some c'->g.rb o=g.rb o'->o=o'
 vv:∀n m vi vj b,lk n st.vars=some vi->lk m st.vars=some vj->zGA vi.vt (g.rv n)=some b->zGA vj.vt (g.rv m)=some b->n=m
 ov:∀o n c vi,lk o st.objs=some c->lk n st.vars=some vi->zGA vi.vt (g.rv n)≠some (g.rb o)
 lo:∀b,Actv st g b->w0.Free b
 lp:∀l∈st.loops,LpOk P X J g l
 fr:Fr w0.M w0.w w
 lv:J.length=st.lvl
 ex:(∀b,g.ex b->b<w0.w.heap.size /\ ¬w0.M b) /\ ∀b,w0.ex b->g.ex b
 gl:GlOk X w0
structure Env (X:Nat->List D->D) (J:List D) (st:St) (g:Gh) (a:Act):Prop where
 tm:∀s sv,lk s st.env=some sv->a.tmps[s]? = some (sv.den X J g)/\sv.ok X J
 df:a.defers=[]
 sz:a.tmps.size=st.nt
theorem yOB{α:Type}{n m:Nat}(h:n≠m):∀l:List (Nat×α),lk m (del n l)=lk m l
 | []=>rfl
 | (k,a)::r=>by
  rw[qOE];by_cases hk:n=k
  ·subst hk;simp only[beq_self_eq_true,if_true];rw[yOB h r];simp[xDA,yLA,Ne.symm h]
  ·simp only[beq_iff_eq,hk,if_false,xDA,yLA];rw[yOB h r]
theorem xXD{α:Type}{n:Nat}:∀l:List (Nat×α),lk n (del n l)=none
 | []=>rfl
 | (k,a)::r=>by
  rw[qOE];by_cases hk:n=k
  ·subst hk;simp only[beq_self_eq_true,if_true];exact xXD r
  ·simp only[beq_iff_eq,hk,if_false,xDA,yLA];exact xXD r
theorem zZA{α:Type}{n:Nat}{a:α}{l:List (Nat×α)}:lk n (upd n a l)=some a:=by simp[upd,xDA,yLA]
theorem yMA{α:Type}{n m:Nat}{a:α}{l:List (Nat×α)}(h:n≠m):lk m (upd n a l)=lk m l:=by
 simp[upd,xDA,yLA,Ne.symm h,yOB h]
theorem zKA{α:Type}{n:Nat}{a:α}{l:List (Nat×α)}:lk n ((n,a)::l)=some a:=by simp[xDA,yLA]
theorem zIA{α:Type}{n m:Nat}{a:α}{l:List (Nat×α)}(h:n≠m):lk m ((n,a)::l)=lk m l:=by simp[xDA,yLA,Ne.symm h]
theorem qZA{α:Type}{n:Nat}{a:α}:∀ {l:List (Nat×α)},lk n l=some a->(n,a)∈l
 | [],h=>by simp[xDA,yLA] at h
 | (k,b)::r,h=>by
  rw[yLA] at h;by_cases hk:n=k
  ·subst hk;simp at h;subst h;simp
  ·simp only[beq_iff_eq,hk,if_false] at h;exact List.mem_cons_of_mem _ (qZA h)
def Gh.setV(g:Gh)(n:Nat)(v:Value)(h:Nat×Nat):Gh:={ g with rv:=fun m=>if m=n then v else g.rv m,rh:=fun m=>if m=n then h else g.rh m }
def Gh.setO(g:Gh)(n:Nat)(b:Nat):Gh:={ g with rb:=fun m=>if m=n then b else g.rb m }
mutual
theorem yCD(X:Nat->List D->D)(J:List D)(g:Gh)(n:Nat)(v:Value)(h:Nat×Nat):∀s:SV,s.men n=false->s.den X J (g.setV n v h)=s.den X J g
 | .i _ _,_=>rfl
 | .b _,_=>rfl
 | .s _,_=>rfl
 | .fl _,_=>rfl
 | .c _,_=>rfl
 | .x m,hm=>by
  simp only[SV.men,beq_eq_false_iff_ne,ne_eq] at hm;simp[SV.den,Gh.setV,Ne.symm hm]
 | .xc m j,hm=>by
  simp only[SV.men,beq_eq_false_iff_ne,ne_eq] at hm;simp[SV.den,Gh.setV,Ne.symm hm]
 | .agg l,hm=>by
  simp only[SV.men] at hm;simp[SV.den,xMB X J g n v h l hm]
 | .oa _ _,_=>rfl
 | .osl _ _,_=>rfl
 | .ea m e k z,hm=>by
  simp only[SV.men,beq_eq_false_iff_ne,ne_eq] at hm;simp[SV.den,Gh.setV,Ne.symm hm]
 | .ra m k,hm=>by
  simp only[SV.men,beq_eq_false_iff_ne,ne_eq] at hm;simp[SV.den,Gh.setV,Ne.symm hm]
 | .tup l,hm=>by
  simp only[SV.men] at hm;simp[SV.den,xMB X J g n v h l hm]
 | .w k l,hm=>by
  simp only[SV.men] at hm;simp[SV.den,xMB X J g n v h l hm]
theorem xMB(X:Nat->List D->D)(J:List D)(g:Gh)(n:Nat)(v:Value)(h:Nat×Nat):∀l:List SV,mens n l=false->dens X J (g.setV n v h) l=dens X J g l
 | [],_=>rfl
 | a::as,hm=>by
  simp only[mens,Bool.or_eq_false_iff] at hm;simp[dens,yCD X J g n v h a hm.1,xMB X J g n v h as hm.2]
end
mutual
theorem xPG(X:Nat->List D->D)(J:List D)(g:Gh)(n:Nat)(b:Nat):∀s:SV,s.meno n=false->s.den X J (g.setO n b)=s.den X J g
 | .i _ _,_=>rfl
 | .b _,_=>rfl
 | .s _,_=>rfl
 | .fl _,_=>rfl
 | .c _,_=>rfl
 | .x m,_=>rfl
 | .xc m j,_=>rfl
 | .agg l,hm=>by
  simp only[SV.meno] at hm;simp[SV.den,yJC X J g n b l hm]
 | .oa m _,hm=>by
  simp only[SV.meno,beq_eq_false_iff_ne,ne_eq] at hm;simp[SV.den,Gh.setO,Ne.symm hm]
 | .osl m _,hm=>by
  simp only[SV.meno,beq_eq_false_iff_ne,ne_eq] at hm;simp[SV.den,Gh.setO,Ne.symm hm]
 | .ra _ _,_=>rfl
 | .ea _ _ _ _,_=>rfl
 | .tup l,hm=>by
  simp only[SV.meno] at hm;simp[SV.den,yJC X J g n b l hm]
 | .w k l,hm=>by
  simp only[SV.meno] at hm;simp[SV.den,yJC X J g n b l hm]
theorem yJC(X:Nat->List D->D)(J:List D)(g:Gh)(n:Nat)(b:Nat):∀l:List SV,ySF n l=false->dens X J (g.setO n b) l=dens X J g l
 | [],_=>rfl
 | a::as,hm=>by
  simp only[ySF,Bool.or_eq_false_iff] at hm;simp[dens,xPG X J g n b a hm.1,yJC X J g n b as hm.2]
end
theorem OwnD.mono{P:Program}{ok ok':Nat->Prop}{w w':World}{e:TypeId}{size:Nat}{v:Value}{n:Nat}{xs:List Value}{d:D}(h:OwnD P ok w e size v n xs d)
  (hok:∀b,ok b->ok' b) (hw:∀b,ok b->w'.heap[b]? = w.heap[b]?):OwnD P ok' w' e size v n xs d:=by
 cases h with
 | nil hv=>exact .nil hv
 | bytes hv he hs=>exact .bytes hv he hs
 | list hv he hlen hsz hr=>exact .list hv he hlen hsz (fun j u d h1 h2=>(hr j u d h1 h2).mono hok hw)
theorem qLG{w w':World}{e:TypeId}{size:Nat}{v:Value}{n:Nat}{xs:List Value}(h:w.ownsRow 0 e size v n xs)
  (hb:∀b,v.ownBlock=some b->w'.heap[b]? = w.heap[b]?):w'.ownsRow 0 e size v n xs:=by
 obtain⟨h1,h2⟩:=h;refine⟨h1,?_⟩;rcases h2 with h2|⟨g,cap,cur,rfl,hg,hh,r⟩
 ·exact .inl h2
 ·exact .inr ⟨g,cap,cur,rfl,hg,(hb g rfl).trans hh,r⟩
theorem ySA.mono{P:Program}{ok ok':Nat->Prop}{w w':World}{t:TypeId}{v:Value}{d:D}(h:ySA P ok w t v d)
  (hok:∀b,ok b->ok' b) (hw:∀b,ok b->w'.heap[b]? = w.heap[b]?) (hb:∀b,v.ownBlock=some b->w'.heap[b]? = w.heap[b]?):ySA P ok' w' t v d:=by
 obtain⟨e,i,n,xs,h1,h2,h3,h4⟩:=h;exact⟨e,i,n,xs,h1,h2,qLG h3 hb,h4.mono hok hw⟩
theorem TagsAt.mono{P:Program}{ok ok':Nat->Prop}{w w':World}{t:TypeId}{v:Value}{d:D}(h:TagsAt P ok w t v d)
  (hok:∀b,ok b->ok' b) (hw:∀b,ok b->w'.heap[b]? = w.heap[b]?) (hb:∀b,zGA (.tags t) v=some b->w'.heap[b]? = w.heap[b]?):TagsAt P ok' w' t v d:=by
 cases h with
 | nil hu=>exact .nil hu
 | map hu hk hh hkeys hkw hs hborn hclock hr=>exact .map hu hk ((hb _ rfl).trans hh) hkeys hkw hs hborn hclock (fun x hx n d h1 h2=>(hr x hx n d h1 h2).mono hok hw)
theorem zEB.mono{P:Program}{ok ok':Nat->Prop}{w w':World}{vt:VT}{v:Value}{hm:Nat×Nat}{d:D}(h:zEB P ok w vt v hm d)
  (hok:∀b,ok b->ok' b) (hw:∀b,ok b->w'.heap[b]? = w.heap[b]?) (hb:∀b,zGA vt v=some b->w'.heap[b]? = w.heap[b]?):zEB P ok' w' vt v hm d:=by
 cases vt with
 | set t=>exact Rep.mono h hok hw
 | row t=>exact⟨Rep.mono h.1 hok hw,hok _ h.2.1,h.2.2.frame (hw _ h.2.1)⟩
 | own t=>exact ySA.mono h hok hw hb
 | tags t=>exact TagsAt.mono h hok hw hb
 | dead=>trivial
 | gi=>exact h
theorem qGC.frame{X:Nat->List D->D}{J:List D}{g:Gh}{w w':World}{o:Nat}{cs:List SV}(h:qGC X J g w o cs)(hb:w'.heap[g.rb o]? = w.heap[g.rb o]?):qGC X J g w' o cs:=by
 obtain⟨⟨t,h1⟩,h2⟩:=h;exact⟨⟨t,hb.trans h1⟩,h2⟩
theorem qGC.lt{X:Nat->List D->D}{J:List D}{g:Gh}{w:World}{o:Nat}{cs:List SV}(h:qGC X J g w o cs):g.rb o<w.heap.size:=by
 obtain⟨⟨t,h1⟩,_⟩:=h;exact(Array.getElem?_eq_some_iff.1 h1).1
theorem zEB.lt{P:Program}{ok:Nat->Prop}{w:World}{vt:VT}{v:Value}{hm:Nat×Nat}{d:D}(h:zEB P ok w vt v hm d):∀b,zGA vt v=some b->b<w.heap.size:=by
 intro b hb;cases vt with
 | set t=>simp[zGA] at hb
 | row t=>simp[zGA] at hb
 | own t =>
  obtain⟨e,i,n,xs,_,_,h3,_⟩:=h;exact(h3.lt b hb).2
 | tags t =>
  cases h with
  | nil=>simp[zGA] at hb
  | map _ _ hh=>simp[zGA] at hb;subst hb;exact(Array.getElem?_eq_some_iff.1 hh).1
 | dead=>simp[zGA] at hb
 | gi=>simp[zGA] at hb
variable {P:Program} {X:Nat->List D->D} {w0:Base} {J:List D} {st:St} {g:Gh} {w:World} {a:Act}
theorem Mem.act_lt(h:Mem P X w0 J st g w){b:Nat}(hb:Actv st g b):b<w.heap.size:=by
 rcases hb with⟨o,cs,h1,rfl⟩|⟨n,vi,h1,h2⟩
 ·exact(h.ob o cs h1).lt
 ·exact(h.va n vi h1).lt b h2
theorem Mem.notEx(h:Mem P X w0 J st g w){b:Nat}(hb:Actv st g b):¬g.ex b:=fun e=>by
 have h1:=h.ex.1 b e;rcases h.lo b hb with h2|h2
 ·exact Nat.lt_irrefl _ (Nat.lt_of_lt_of_le h1.1 h2)
 ·exact h1.2 h2
theorem Mem.newEx(h:Mem P X w0 J st g w){b:Nat}(hb:w.heap.size<=b):¬g.ex b:=fun e=>by
 have h1:=(h.ex.1 b e).1;have h2:=h.fr.size;omega
theorem Mem.frame(h:Mem P X w0 J st g w){w':World}(hf:Fr (fun _=>False) w w'):Mem P X w0 J st g w':=by
 have hb:∀b,b<w.heap.size->w'.heap[b]? = w.heap[b]?:=fun b hb=>hf.block b hb (fun e=>e)
 have hok:∀b,okOf st g w b->okOf st g w' b:=fun b hb=>⟨Nat.lt_of_lt_of_le hb.1 hf.size,hb.2⟩
 refine⟨fun n vi hn=>(h.va n vi hn).mono hok (fun b hb'=>hb b hb'.1) (fun b hb'=>hb b ((h.va n vi hn).lt b hb')),fun o cs ho=>(h.ob o cs ho).frame (hb _ (h.ob o cs ho).lt),h.oo,h.vv,h.ov,h.lo,h.lp,?_,h.lv,h.ex,h.gl⟩;exact h.fr.trans hf (fun _ _ e=>e.elim)
end Go.Dx
namespace Go.Dx
open Go
variable {P:Program} {X:Nat->List D->D} {w0:Base} {J:List D} {st:St} {g:Gh} {w:World} {a:Act}
theorem Mem.modify(h:Mem P X w0 J st g w){M:Nat->Prop}{w':World}(hf:Fr M w w')(hM:∀b,b<w.heap.size->M b->Actv st g b)(st':St)
  (hlv:st'.lvl=st.lvl) (hlp:∀l∈st'.loops,l∈st.loops)
  (hob:∀o cs,lk o st'.objs=some cs->lk o st.objs=some cs /\ ¬M (g.rb o))
  (hva:∀n vi,lk n st'.vars=some vi->vi.vt = .dead∨(lk n st.vars=some vi /\ ∀b,zGA vi.vt (g.rv n)=some b -> ¬M b)) :
  Mem P X w0 J st' g w' /\ ∀b,okOf st g w b->okOf st' g w' b/\w'.heap[b]? = w.heap[b]?:=by
 have hact:∀b,Actv st' g b->Actv st g b:=by
  rintro b (⟨o,cs,h1,h2⟩|⟨n,vi,h1,h2⟩)
  ·exact .inl ⟨o,cs,(hob o cs h1).1,h2⟩
  ·rcases hva n vi h1 with hd|⟨h3,_⟩
   ·rw[hd] at h2;simp[zGA] at h2
   ·exact .inr ⟨n,vi,h3,h2⟩
 have hok:∀b,okOf st g w b->okOf st' g w' b/\w'.heap[b]? = w.heap[b]?:=fun b hb =>
  ⟨⟨Nat.lt_of_lt_of_le hb.1 hf.size,fun e=>hb.2.1 (hact b e),hb.2.2⟩,hf.block b hb.1 (fun e=>hb.2.1 (hM b hb.1 e))⟩
 refine⟨⟨?_,?_,?_,?_,?_,fun b hb=>h.lo b (hact b hb),fun l hl=>h.lp l (hlp l hl),?_,by rw[hlv];exact h.lv,h.ex,h.gl⟩,hok⟩
 ·intro n vi hn;rcases hva n vi hn with hd|⟨h3,h4⟩
  ·rw[hd];trivial
  ·have hv:=h.va n vi h3;exact hv.mono (fun b hb=>(hok b hb).1) (fun b hb=>(hok b hb).2) (fun b hb=>hf.block b (hv.lt b hb) (h4 b hb))
 ·intro o cs ho;have hc:=h.ob o cs (hob o cs ho).1;exact hc.frame (hf.block _ hc.lt (hob o cs ho).2)
 ·intro o o' c c' h1 h2;exact h.oo o o' c c' (hob o c h1).1 (hob o' c' h2).1
 ·intro n m vi vj b h1 h2 h3 h4;rcases hva n vi h1 with hd|⟨h5,_⟩
  ·rw[hd] at h3;simp[zGA] at h3
  ·rcases hva m vj h2 with hd|⟨h6,_⟩
   ·rw[hd] at h4;simp[zGA] at h4
   ·exact h.vv n m vi vj b h5 h6 h3 h4
 ·intro o n c vi h1 h2;rcases hva n vi h2 with hd|⟨h5,_⟩
  ·rw[hd];simp[zGA]
  ·exact h.ov o n c vi (hob o c h1).1 h5
 ·refine h.fr.trans hf (fun b hb hm=>?_);rcases h.lo b (hM b (Nat.lt_of_lt_of_le hb h.fr.size) hm) with h1|h1
  ·omega
  ·exact h1
theorem Mem.change(h:Mem P X w0 J st g w){M:Nat->Prop}{w':World}(hf:Fr M w w')(hM:∀b,b<w.heap.size->M b->Actv st g b)(st':St)
  (hlv:st'.lvl=st.lvl) (hlp:∀l∈st'.loops,l∈st.loops)
  (hob:∀o cs,lk o st'.objs=some cs->lk o st.objs=some cs /\ ¬M (g.rb o))
  (hva:∀n vi,lk n st'.vars=some vi->vi.vt = .dead∨(lk n st.vars=some vi /\ ∀b,zGA vi.vt (g.rv n)=some b -> ¬M b))
  (n:Nat) (vi:VI) (v:Value) (hm:Nat×Nat) (hfresh:st'.freshV n=true)
  (hblk:∀b,zGA vi.vt v=some b->(w.heap.size<=b∨M b)/\w0.Free b/\b<w'.heap.size)
  (hvok:∀ok':Nat->Prop,(∀b,okOf st g w b->ok' b)->(∀b,w.heap.size<=b->b<w'.heap.size->zGA vi.vt v≠some b->ok' b)->zEB P ok' w' vi.vt v hm (vi.de.eval X J)) :
  Mem P X w0 J { st' with vars:=(n,vi)::st'.vars } (g.setV n v hm) w':=by
 obtain⟨hmem,hok⟩:=h.modify hf hM st' hlv hlp hob hva;simp only[St.freshV,baZ,List.all_eq_true,Bool.not_eq_true'] at hfresh;obtain⟨⟨⟨hf1,hf2⟩,hf3⟩,hf4⟩:=hfresh;have hnone:lk n st'.vars=none:=by simpa using hf1
 have hrv:∀m vj,lk m st'.vars=some vj->m≠n:=fun m vj hj e=>by rw[e,hnone] at hj;cases hj
 have hsame:∀m,m≠n->(g.setV n v hm).rv m=g.rv m/\(g.setV n v hm).rh m=g.rh m:=fun m hne=>by simp[Gh.setV,hne]
 have hnew:(g.setV n v hm).rv n=v/\(g.setV n v hm).rh n=hm:=by simp[Gh.setV]
 have hact:∀b,Actv { st' with vars:=(n,vi)::st'.vars } (g.setV n v hm) b->Actv st' g b∨zGA vi.vt v=some b:=by
  rintro b (⟨o,cs,h1,h2⟩|⟨m,vj,h1,h2⟩)
  ·exact .inl (.inl ⟨o,cs,h1,h2⟩)
  ·by_cases hmn:n=m
   ·subst hmn;rw[zKA] at h1;cases h1;rw[hnew.1] at h2;exact .inr h2
   ·rw[zIA hmn] at h1;rw[(hsame m (Ne.symm hmn)).1] at h2;exact .inl (.inr ⟨m,vj,h1,h2⟩)
 have hactst:∀b,Actv st' g b -> ¬M b:=by
  rintro b (⟨o,cs,h1,h2⟩|⟨m,vj,h1,h2⟩) hMb
  ·subst h2;exact(hob o cs h1).2 hMb
  ·rcases hva m vj h1 with hd|⟨_,h4⟩
   ·rw[hd] at h2;simp[zGA] at h2
   ·exact h4 b h2 hMb
 have hactlt:∀b,Actv st' g b->b<w.heap.size:=by
  rintro b (⟨o,cs,h1,h2⟩|⟨m,vj,h1,h2⟩)
  ·subst h2;exact(h.ob o cs (hob o cs h1).1).lt
  ·rcases hva m vj h1 with hd|⟨h3,_⟩
   ·rw[hd] at h2;simp[zGA] at h2
   ·exact(h.va m vj h3).lt b h2
 have hdis:∀b,Actv st' g b->zGA vi.vt v≠some b:=fun b hb he=>by
  rcases(hblk b he).1 with h1|h1
  ·have:=hactlt b hb;omega
  ·exact hactst b hb h1
 have hokN:∀b,okOf st g w b->okOf { st' with vars:=(n,vi)::st'.vars } (g.setV n v hm) w' b/\w'.heap[b]? = w.heap[b]?:=fun b hb =>
  ⟨⟨(hok b hb).1.1,fun e=>by
   rcases hact b e with h1|h1
   ·exact(hok b hb).1.2.1 h1
   ·rcases(hblk b h1).1 with h2|h2
    ·have:=hb.1;omega
    ·exact hb.2.1 (hM b hb.1 h2),hb.2.2⟩,(hok b hb).2⟩
 refine⟨?_,?_,?_,?_,?_,?_,?_,hmem.fr,hmem.lv,hmem.ex,hmem.gl⟩
 ·intro m vj hj;by_cases hmn:n=m
  ·subst hmn;rw[zKA] at hj;cases hj;rw[hnew.1,hnew.2];refine hvok _ (fun b hb=>(hokN b hb).1) (fun b hb1 hb2 hb3=>⟨hb2,fun e=>?_,fun e=>?_⟩)
   rotate_left
   ·have h1:=(h.ex.1 b e).1;have h2:=h.fr.size;omega
   rcases hact b e with h1|h1
   ·have:=hactlt b h1;omega
   ·exact hb3 h1
  ·rw[zIA hmn] at hj;rw[(hsame m (Ne.symm hmn)).1,(hsame m (Ne.symm hmn)).2];rcases hva m vj hj with hd|⟨h3,h4⟩
   ·rw[hd];trivial
   ·have hv:=h.va m vj h3;exact hv.mono (fun b hb=>(hokN b hb).1) (fun b hb=>(hokN b hb).2) (fun b hb=>hf.block b (hv.lt b hb) (h4 b hb))
 ·intro o cs ho;have hc:=hmem.ob o cs ho;have hmen:mens n cs=false:=by
   have:=hf3 _ (qZA ho)
   simpa using this
  unfold qGC at hc ⊢;rw[xMB X J g n v hm cs hmen];exact hc
 ·intro o o' c c' h1 h2 h3;exact hmem.oo o o' c c' h1 h2 h3
 ·intro m k vj vk b h1 h2 h3 h4;by_cases hm1:n=m
  ·subst hm1;rw[zKA] at h1;cases h1
   rw[hnew.1] at h3;by_cases hk1:n=k
   ·exact hk1
   ·rw[zIA hk1] at h2;rw[(hsame k (Ne.symm hk1)).1] at h4;exact absurd h3 (hdis b (.inr ⟨k,vk,h2,h4⟩))
  ·rw[zIA hm1] at h1;rw[(hsame m (Ne.symm hm1)).1] at h3;by_cases hk1:n=k
   ·subst hk1;rw[zKA] at h2;cases h2
    rw[hnew.1] at h4;exact absurd h4 (hdis b (.inr ⟨m,vj,h1,h3⟩))
   ·rw[zIA hk1] at h2;rw[(hsame k (Ne.symm hk1)).1] at h4;exact hmem.vv m k vj vk b h1 h2 h3 h4
 ·intro o m c vj h1 h2 h3;by_cases hm1:n=m
  ·subst hm1;rw[zKA] at h2;cases h2
   rw[hnew.1] at h3;exact hdis _ (.inl ⟨o,c,h1,rfl⟩) h3
  ·rw[zIA hm1] at h2;rw[(hsame m (Ne.symm hm1)).1] at h3;exact hmem.ov o m c vj h1 h2 h3
 ·intro b hb;rcases hact b hb with h1|h1
  ·exact hmem.lo b h1
  ·exact(hblk b h1).2.1
 ·intro l hl;have hl4:=hf4 l hl;simp only[beq_eq_false_iff_ne,ne_eq] at hl4;obtain⟨b,off,len,cap,k,i,h1,h2,h3,h4,h5⟩:=hmem.lp l hl;exact⟨b,off,len,cap,k,i,by rw[yCD X J g n v hm _ (by simpa using hl4.2)];exact h1,h2,h3,h4,by rw[(hsame l.row hl4.1).2];exact h5⟩
theorem Mem.newObj(h:Mem P X w0 J st g w)(n:Nat)(cs:List SV)(t:TypeId)(hfresh:st.freshO n=true)(h1:∀v∈dens X J g cs,v.oneCell'=true)(h2:oks X J cs)(hcs:ySF n cs=false) :
  Mem P X w0 J { st with objs:=(n,cs)::st.objs } (g.setO n w.heap.size) (w.alloc (.cells (dens X J g cs).toArray t)):=by
 have hmem:=h.frame (Fr.alloc (fun _=>False) w (.cells (dens X J g cs).toArray t));simp only[St.freshO,baZ,List.all_eq_true,Bool.not_eq_true'] at hfresh;obtain⟨⟨⟨hf1,hf2⟩,hf3⟩,hf4⟩:=hfresh;have hnone:lk n st.objs=none:=by simpa using hf1
 have hsame:∀m,m≠n->(g.setO n w.heap.size).rb m=g.rb m:=fun m hne=>by simp[Gh.setO,hne]
 have hnew:(g.setO n w.heap.size).rb n=w.heap.size:=by simp[Gh.setO]
 have hact:∀b,Actv { st with objs:=(n,cs)::st.objs } (g.setO n w.heap.size) b->Actv st g b∨b=w.heap.size:=by
  rintro b (⟨o,c,h1,h2⟩|⟨m,vj,h1,h2⟩)
  ·by_cases hon:n=o
   ·subst hon;rw[hnew] at h2;exact .inr h2.symm
   ·rw[zIA hon] at h1;rw[hsame o (Ne.symm hon)] at h2;exact .inl (.inl ⟨o,c,h1,h2⟩)
  ·exact .inl (.inr ⟨m,vj,h1,h2⟩)
 have hnot:∀o c,lk o st.objs=some c->n≠o:=fun o c ho e=>by subst e;rw[hnone] at ho;cases ho
 refine⟨?_,?_,?_,hmem.vv,?_,?_,?_,hmem.fr,hmem.lv,hmem.ex,hmem.gl⟩
 ·intro m vj hj;have hv:=h.va m vj hj;refine hv.mono (fun b hb=>⟨by have:=hb.1;simp;omega,fun e=>?_,hb.2.2⟩) (fun b hb=>Go.RowKit.Below.heap_alloc w _ b hb.1) (fun b hb=>Go.RowKit.Below.heap_alloc w _ b (hv.lt b hb));rcases hact b e with h2|h2
  ·exact hb.2.1 h2
  ·have:=hb.1;omega
 ·intro o c ho;by_cases hon:n=o
  ·subst hon;rw[zKA] at ho;cases ho
   unfold qGC;rw[hnew,yJC X J g n _ cs hcs];exact⟨⟨t,heap_alloc_new w _⟩,h1,h2⟩
  ·rw[zIA hon] at ho;have hc:=hmem.ob o c ho;have hmen:ySF n c=false:=by simpa using hf3 _ (qZA ho)
   unfold qGC at hc ⊢;rw[hsame o (Ne.symm hon),yJC X J g n _ c hmen];exact hc
 ·intro o o' c c' h2 h3 h4;by_cases hon:n=o
  ·subst hon;by_cases hon':n=o'
   ·exact hon'
   ·rw[zIA hon'] at h3;rw[hnew,hsame o' (Ne.symm hon')] at h4
    have:=(h.ob o' c' h3).lt
    omega
  ·rw[zIA hon] at h2;by_cases hon':n=o'
   ·subst hon';rw[hnew,hsame o (Ne.symm hon)] at h4
    have:=(h.ob o c h2).lt
    omega
   ·rw[zIA hon'] at h3;rw[hsame o (Ne.symm hon),hsame o' (Ne.symm hon')] at h4;exact hmem.oo o o' c c' h2 h3 h4
 ·intro o m c vj h2 h3 h4;by_cases hon:n=o
  ·subst hon;rw[hnew] at h4
   have:=(h.va m vj h3).lt _ h4
   omega
  ·rw[zIA hon] at h2;rw[hsame o (Ne.symm hon)] at h4;exact hmem.ov o m c vj h2 h3 h4
 ·intro b hb;rcases hact b hb with h2|h2
  ·exact hmem.lo b h2
  ·subst h2;exact .inl h.fr.size
 ·intro l hl;have hl4:=hf4 l hl;obtain⟨b,off,len,cap,k,i,h2,h3,h4,h5,h6⟩:=hmem.lp l hl;exact⟨b,off,len,cap,k,i,by rw[xPG X J g n _ _ (by simpa using hl4)];exact h2,h3,h4,h5,h6⟩
theorem Mem.setObj(h:Mem P X w0 J st g w){o:Nat}{cs cs':List SV}{t:TypeId}{w':World}(ho:lk o st.objs=some cs)
  (hw:w'.heap[g.rb o]? = some (.cells (dens X J g cs').toArray t (0,0))) (hf:Fr (fun b=>b=g.rb o) w w')
  (h1:∀v∈dens X J g cs',v.oneCell'=true) (h2:oks X J cs') :
  Mem P X w0 J { st with objs:=upd o cs' st.objs } g w':=by
 have hact:∀b,Actv { st with objs:=upd o cs' st.objs } g b↔Actv st g b:=by
  intro b;constructor
  ·rintro(⟨p,c,h3,h4⟩|h3)
   ·by_cases hp:o=p
    ·subst hp;exact .inl ⟨o,cs,ho,h4⟩
    ·rw[yMA hp] at h3;exact .inl ⟨p,c,h3,h4⟩
   ·exact .inr h3
  ·rintro(⟨p,c,h3,h4⟩|h3)
   ·by_cases hp:o=p
    ·subst hp;exact .inl ⟨o,cs',zZA,h4⟩
    ·exact .inl ⟨p,c,by rw[yMA hp];exact h3,h4⟩
   ·exact .inr h3
 have hoa:Actv st g (g.rb o):=.inl ⟨o,cs,ho,rfl⟩;have hold:∀p c,lk p (upd o cs' st.objs)=some c -> ∃c',lk p st.objs=some c':=by
  intro p c hp;by_cases h3:o=p
  ·subst h3;exact⟨cs,ho⟩
  ·rw[yMA h3] at hp;exact⟨c,hp⟩
 refine⟨?_,?_,?_,h.vv,?_,fun b hb=>h.lo b ((hact b).1 hb),h.lp,?_,h.lv,h.ex,h.gl⟩
 ·intro n vi hn;have hv:=h.va n vi hn;refine hv.mono (fun b hb=>⟨Nat.lt_of_lt_of_le hb.1 hf.size,fun e=>hb.2.1 ((hact b).1 e),hb.2.2⟩) (fun b hb=>hf.block b hb.1 (fun e=>hb.2.1 (e▸hoa))) (fun b hb=>hf.block b (hv.lt b hb) (fun e=>?_));subst e;exact h.ov o n cs vi ho hn hb
 ·intro p c hp;by_cases h3:o=p
  ·subst h3;rw[zZA] at hp;cases hp
   exact⟨⟨t,hw⟩,h1,h2⟩
  ·rw[yMA h3] at hp;have hc:=h.ob p c hp;exact hc.frame (hf.block _ hc.lt (fun e=>h3 (h.oo o p cs c ho hp e.symm)))
 ·intro p q c c' h3 h4 h5;obtain⟨c1,h3⟩:=hold p c h3;obtain⟨c2,h4⟩:=hold q c' h4;exact h.oo p q c1 c2 h3 h4 h5
 ·intro p n c vi h3 h4;obtain⟨c1,h3⟩:=hold p c h3;exact h.ov p n c1 vi h3 h4
 ·refine h.fr.trans hf (fun b hb e=>?_);subst e;rcases h.lo _ hoa with h1|h1
  ·omega
  ·exact h1
end Go.Dx
namespace Go.Dx
open Go
theorem qWA(X:Nat->List D->D)(J:List D):∀l,zDA X l J=l.map (fun e=>e.eval X J)
 | []=>by simp[zDA]
 | a::as=>by simp[zDA,qWA X J as]
theorem zFA(X:Nat->List D->D)(J:List D)(n:Fn)(as:List DE):(mkf n as).eval X J=n.eval X (zDA X as J):=by
 unfold mkf;split
 case h_13 j l =>
  simp only[DE.eval,zDA,Fn.eval,D.cells,qWA,List.getD_eq_getElem?_getD,List.getElem?_map];cases h:l[j]? <;> simp[DE.eval]
 all_goals first|rfl|(simp only[DE.eval,zDA,Fn.eval,D.asInt,D.asBool,D.cells];done)
theorem yCC(k:IntKind)(n:Int):(Lit.int k (k.wrap n)).wf=true:=by
 cases k <;> simp[Lit.wf,IntKind.min,IntKind.max,IntKind.signed,IntKind.bits,IntKind.wrap] <;> (try split) <;> (try omega)
inductive Shape:Kd->Value->D->Prop where
 | slice {a n c d} (hn:n=d.len) (ha:a=none↔d.isNil=true) (hm:n<=maxLen) (h0:a=none->c=0):Shape .sl (.slice a n c) d
 | ptr {a d} (ha:a=none↔d.isNil=true):Shape .pt (.pointer a) d
 | map {a d} (ha:a=none↔d.isNil=true) (hl:d.isNil=true->d.len=0):Shape .mp (.map a) d
 | str {s:ByteArray} {d} (hn:s.size=d.len) (hm:s.size<=maxLen):Shape .sr (.string s) d
theorem Shape.one{k:Kd}{v:Value}{d:D}(h:Shape k v d):v.oneCell'=true/\v.cells = #[v]:=by
 cases h <;> exact⟨rfl,rfl⟩
section
variable {P:Program} {ok:Nat->Prop} {w:World}
theorem yYC{t:TypeId}{d:TypeDesc}(hu:P.underlying t=some d)(hd:zHA d=false)(n:Nat):zMF P n t=[t]:=by
 cases n with
 | zero=>rfl
 | succ n =>
  unfold zMF;rw[hu];cases d <;> simp_all [zHA]
theorem Rep.notAgg{t:TypeId}{d:TypeDesc}{v:Value}{x:D}(h:Rep P ok w t v x)(hu:P.underlying t=some d)(hd:zHA d=false):v.cells = #[v]/\x.cells=[x]/\v.oneCell'=true:=by
 cases h with
 | row hu' hd'=>rw[hu] at hu';cases hu';rw[hd] at hd';cases hd'
 | int=>exact⟨rfl,rfl,rfl⟩
 | bool=>exact⟨rfl,rfl,rfl⟩
 | str=>exact⟨rfl,rfl,rfl⟩
 | flt=>exact⟨rfl,rfl,rfl⟩
 | snil=>exact⟨rfl,rfl,rfl⟩
 | bytes=>exact⟨rfl,rfl,rfl⟩
 | list=>exact⟨rfl,rfl,rfl⟩
 | pnil=>exact⟨rfl,rfl,rfl⟩
 | ptr=>exact⟨rfl,rfl,rfl⟩
 | mnil=>exact⟨rfl,rfl,rfl⟩
 | map=>exact⟨rfl,rfl,rfl⟩
theorem Rep.desc{t:TypeId}{v:Value}{x:D}(h:Rep P ok w t v x):∃d,P.underlying t=some d:=by
 cases h <;> exact⟨_,‹_›⟩
theorem Rep.cell{t u:TypeId}{v:Value}{x:D}(h:Rep P ok w t v x){j:Nat}(hj:(tys P t)[j]? = some u) :
  ∃cv cd,v.cells[j]? = some cv/\x.cells[j]? = some cd/\Rep P ok w u cv cd:=by
 obtain⟨d,hu⟩:=h.desc;cases hd:zHA d with
 | false =>
  obtain⟨h1,h2,_⟩:=h.notAgg hu hd;have ht:tys P t=[t]:=yYC hu hd 6;rw[ht] at hj;cases j with
  | zero =>
   simp at hj;subst hj
   exact⟨v,x,by rw[h1];rfl,by rw[h2];rfl,h⟩
  | succ j=>simp at hj
 | true =>
  cases h with
  | row hu' hd' hlen hlen' h1 hr =>
   rename_i vs ds;have hj1:j<(tys P t).length:=(List.getElem?_eq_some_iff.1 hj).1;have hv:vs[j]? = some vs[j]:=List.getElem?_eq_getElem (by omega);have hx:ds[j]? = some ds[j]:=List.getElem?_eq_getElem (by omega);exact⟨vs[j],ds[j],by simp[Value.cells],by simp[D.cells],hr j u _ _ hj hv hx⟩
  | int hu'=>rw[hu] at hu';cases hu';simp[zHA] at hd
  | bool hu'=>rw[hu] at hu';cases hu';simp[zHA] at hd
  | str hu'=>rw[hu] at hu';cases hu';simp[zHA] at hd
  | flt hu'=>rw[hu] at hu';cases hu';simp[zHA] at hd
  | snil hu'=>rw[hu] at hu';cases hu';simp[zHA] at hd
  | bytes hu'=>rw[hu] at hu';cases hu';simp[zHA] at hd
  | list hu'=>rw[hu] at hu';cases hu';simp[zHA] at hd
  | pnil hu'=>rw[hu] at hu';cases hu';simp[zHA] at hd
  | ptr hu'=>rw[hu] at hu';cases hu';simp[zHA] at hd
  | mnil hu'=>rw[hu] at hu';cases hu';simp[zHA] at hd
  | map hu'=>rw[hu] at hu';cases hu';simp[zHA] at hd
theorem Rep.size{t:TypeId}{v:Value}{x:D}(h:Rep P ok w t v x):v.cells.size=(tys P t).length/\x.cells.length=(tys P t).length:=by
 obtain⟨d,hu⟩:=h.desc;cases hd:zHA d with
 | false =>
  obtain⟨h1,h2,_⟩:=h.notAgg hu hd;have ht:tys P t=[t]:=yYC hu hd 6;rw[ht,h1,h2];exact⟨rfl,rfl⟩
 | true =>
  cases h with
  | row hu' hd' hlen hlen' h1 hr=>simp[Value.cells,D.cells,hlen,hlen']
  | int hu'=>rw[hu] at hu';cases hu';simp[zHA] at hd
  | bool hu'=>rw[hu] at hu';cases hu';simp[zHA] at hd
  | str hu'=>rw[hu] at hu';cases hu';simp[zHA] at hd
  | flt hu'=>rw[hu] at hu';cases hu';simp[zHA] at hd
  | snil hu'=>rw[hu] at hu';cases hu';simp[zHA] at hd
  | bytes hu'=>rw[hu] at hu';cases hu';simp[zHA] at hd
  | list hu'=>rw[hu] at hu';cases hu';simp[zHA] at hd
  | pnil hu'=>rw[hu] at hu';cases hu';simp[zHA] at hd
  | ptr hu'=>rw[hu] at hu';cases hu';simp[zHA] at hd
  | mnil hu'=>rw[hu] at hu';cases hu';simp[zHA] at hd
  | map hu'=>rw[hu] at hu';cases hu';simp[zHA] at hd
theorem Rep.isAgg{t:TypeId}{d:TypeDesc}{v:Value}{x:D}(h:Rep P ok w t v x)(hu:P.underlying t=some d)(hd:zHA d=true):v = .agg v.cells/\x = .row x.cells:=by
 cases h with
 | row=>exact⟨rfl,rfl⟩
 | int hu'=>rw[hu] at hu';cases hu';simp[zHA] at hd
 | bool hu'=>rw[hu] at hu';cases hu';simp[zHA] at hd
 | str hu'=>rw[hu] at hu';cases hu';simp[zHA] at hd
 | flt hu'=>rw[hu] at hu';cases hu';simp[zHA] at hd
 | snil hu'=>rw[hu] at hu';cases hu';simp[zHA] at hd
 | bytes hu'=>rw[hu] at hu';cases hu';simp[zHA] at hd
 | list hu'=>rw[hu] at hu';cases hu';simp[zHA] at hd
 | pnil hu'=>rw[hu] at hu';cases hu';simp[zHA] at hd
 | ptr hu'=>rw[hu] at hu';cases hu';simp[zHA] at hd
 | mnil hu'=>rw[hu] at hu';cases hu';simp[zHA] at hd
 | map hu'=>rw[hu] at hu';cases hu';simp[zHA] at hd
theorem Rep.isInt{t:TypeId}{k:IntKind}{v:Value}{x:D}(h:Rep P ok w t v x)(hu:P.underlying t=some (.int k)):∃n,v = .int k n/\x = .int n/\(Lit.int k n).wf=true:=by
 cases h with
 | int hu' hw=>rw[hu] at hu';cases hu';exact⟨_,rfl,rfl,hw⟩
 | bool hu'=>rw[hu] at hu';cases hu'
 | str hu'=>rw[hu] at hu';cases hu'
 | flt hu'=>rw[hu] at hu';cases hu'
 | snil hu'=>rw[hu] at hu';cases hu'
 | bytes hu'=>rw[hu] at hu';cases hu'
 | list hu'=>rw[hu] at hu';cases hu'
 | row hu' hd=>rw[hu] at hu';cases hu';simp[zHA] at hd
 | pnil hu'=>rw[hu] at hu';cases hu'
 | ptr hu'=>rw[hu] at hu';cases hu'
 | mnil hu'=>rw[hu] at hu';cases hu'
 | map hu'=>rw[hu] at hu';cases hu'
theorem Rep.isBool{t:TypeId}{v:Value}{x:D}(h:Rep P ok w t v x)(hu:P.underlying t=some .bool):∃b,v = .bool b/\x = .bool b:=by
 cases h with
 | bool hu'=>exact⟨_,rfl,rfl⟩
 | int hu'=>rw[hu] at hu';cases hu'
 | str hu'=>rw[hu] at hu';cases hu'
 | flt hu'=>rw[hu] at hu';cases hu'
 | snil hu'=>rw[hu] at hu';cases hu'
 | bytes hu'=>rw[hu] at hu';cases hu'
 | list hu'=>rw[hu] at hu';cases hu'
 | row hu' hd=>rw[hu] at hu';cases hu';simp[zHA] at hd
 | pnil hu'=>rw[hu] at hu';cases hu'
 | ptr hu'=>rw[hu] at hu';cases hu'
 | mnil hu'=>rw[hu] at hu';cases hu'
 | map hu'=>rw[hu] at hu';cases hu'
theorem Rep.isStr{t:TypeId}{v:Value}{x:D}(h:Rep P ok w t v x)(hu:P.underlying t=some .string):∃s:ByteArray,v = .string s/\x = .str s.data.toList/\s.size<=maxLen:=by
 cases h with
 | str hu' hm=>exact⟨_,rfl,rfl,hm⟩
 | int hu'=>rw[hu] at hu';cases hu'
 | bool hu'=>rw[hu] at hu';cases hu'
 | flt hu'=>rw[hu] at hu';cases hu'
 | snil hu'=>rw[hu] at hu';cases hu'
 | bytes hu'=>rw[hu] at hu';cases hu'
 | list hu'=>rw[hu] at hu';cases hu'
 | row hu' hd=>rw[hu] at hu';cases hu';simp[zHA] at hd
 | pnil hu'=>rw[hu] at hu';cases hu'
 | ptr hu'=>rw[hu] at hu';cases hu'
 | mnil hu'=>rw[hu] at hu';cases hu'
 | map hu'=>rw[hu] at hu';cases hu'
theorem Rep.isFlt{t:TypeId}{v:Value}{x:D}(h:Rep P ok w t v x)(hu:P.underlying t=some (.float .f64)):∃n,v = .float .f64 n/\x = .flt n:=by
 cases h with
 | flt hu'=>exact⟨_,rfl,rfl⟩
 | int hu'=>rw[hu] at hu';cases hu'
 | bool hu'=>rw[hu] at hu';cases hu'
 | str hu'=>rw[hu] at hu';cases hu'
 | snil hu'=>rw[hu] at hu';cases hu'
 | bytes hu'=>rw[hu] at hu';cases hu'
 | list hu'=>rw[hu] at hu';cases hu'
 | row hu' hd=>rw[hu] at hu';cases hu';simp[zHA] at hd
 | pnil hu'=>rw[hu] at hu';cases hu'
 | ptr hu'=>rw[hu] at hu';cases hu'
 | mnil hu'=>rw[hu] at hu';cases hu'
 | map hu'=>rw[hu] at hu';cases hu'
theorem zLF(s:ByteArray):s.data.toList.length=s.size:=by rw[Array.length_toList];rfl
theorem yNI{d:TypeDesc}{k:Kd}(h:(some d).bind kdOf=some k):zHA d=false:=by
 cases d <;> simp_all [kdOf,zHA]
theorem Rep.shape{t:TypeId}{k:Kd}{v:Value}{x:D}(h:Rep P ok w t v x)(hk:kdT P t=some k):Shape k v x:=by
 unfold kdT at hk;cases h with
 | int hu=>rw[hu] at hk;simp[kdOf] at hk
 | bool hu=>rw[hu] at hk;simp[kdOf] at hk
 | flt hu=>rw[hu] at hk;simp[kdOf] at hk
 | row hu hd=>rw[hu] at hk;rw[yNI hk] at hd;cases hd
 | str hu hm=>rw[hu] at hk;simp[kdOf] at hk;subst hk;exact .str (by simp[D.len,zLF]) hm
 | snil hu=>rw[hu] at hk;simp[kdOf] at hk;subst hk;exact .slice rfl (by simp[D.isNil]) (by simp) (fun _=>rfl)
 | bytes hu he hok hcap hmax=>rw[hu] at hk;simp[kdOf] at hk;subst hk;exact .slice rfl (by simp[D.isNil]) (by omega) (fun h=>by cases h)
 | list hu he hi hok hlen hcap hmax=>rw[hu] at hk;simp[kdOf] at hk;subst hk;exact .slice rfl (by simp[D.isNil]) (by omega) (fun h=>by cases h)
 | pnil hu=>rw[hu] at hk;simp[kdOf] at hk;subst hk;exact .ptr (by simp[D.isNil])
 | ptr hu=>rw[hu] at hk;simp[kdOf] at hk;subst hk;exact .ptr (by simp[D.isNil])
 | mnil hu=>rw[hu] at hk;simp[kdOf] at hk;subst hk;exact .map (by simp[D.isNil]) (by simp[D.len])
 | map hu=>rw[hu] at hk;simp[kdOf] at hk;subst hk;exact .map (by simp[D.isNil]) (by simp[D.isNil])
theorem ySA.shape{t:TypeId}{v:Value}{x:D}(h:ySA P ok w t v x):Shape .sl v x:=by
 obtain⟨e,i,n,xs,hu,hi,⟨h1,h2⟩,h3⟩:=h;cases h3 with
 | nil hv=>subst hv;exact .slice rfl (by simp[D.isNil]) (by simp) (fun _=>rfl)
 | bytes hv he hs =>
  rcases h2 with⟨rfl,_⟩|⟨g,cap,cur,rfl,_,_,h4,h5,_⟩
  ·simp[Value.ownBlock] at hv
  ·exact .slice rfl (by simp[D.isNil]) (by omega) (fun h=>by cases h)
 | list hv he hlen hsz hr =>
  rcases h2 with⟨rfl,_⟩|⟨g,cap,cur,rfl,_,_,h4,h5,_⟩
  ·simp[Value.ownBlock] at hv
  ·exact .slice rfl (by simp[D.isNil]) (by omega) (fun h=>by cases h)
theorem TagsAt.shape{t:TypeId}{v:Value}{x:D}(h:TagsAt P ok w t v x):Shape .mp v x:=by
 cases h with
 | nil=>exact .map (by simp[D.isNil]) (by simp[D.len])
 | map=>exact .map (by simp[D.isNil]) (by simp[D.isNil])
end
section
variable {P:Program} {X:Nat->List D->D} {w0:Base} {J:List D} {st:St} {g:Gh} {w:World} {a:Act}
theorem VT.rest_ok{vt:VT}{u:TypeId}(h:vt.rest=some u){ok:Nat->Prop}{v:Value}{hm:Nat×Nat}{d:D}(hv:zEB P ok w vt v hm d):Rep P ok w u v d:=by
 cases vt <;> simp[VT.rest] at h
 ·subst h;exact hv
 ·subst h;exact hv.1
theorem Mem.rest(h:Mem P X w0 J st g w){n:Nat}{vi:VI}{u:TypeId}(hn:lk n st.vars=some vi)(hr:vi.vt.rest=some u):Rep P (okOf st g w) w u (g.rv n) (vi.de.eval X J) :=
 VT.rest_ok hr (h.va n vi hn)
theorem Mem.cell(h:Mem P X w0 J st g w){n j:Nat}{vi:VI}{u ct:TypeId}(hn:lk n st.vars=some vi)(hr:vi.vt.rest=some u)(hj:(tys P u)[j]? = some ct) :
  Rep P (okOf st g w) w ct ((SV.xc n j).den X J g) ((mkf (.get j) [vi.de]).eval X J):=by
 obtain⟨cv,cd,h1,h2,h3⟩:=(h.rest hn hr).cell hj;have e1:(SV.xc n j).den X J g=cv:=by simp[SV.den,Array.getD_eq_getD_getElem?,h1]
 have e2:(mkf (.get j) [vi.de]).eval X J=cd:=by rw[zFA];simp[zDA,Fn.eval,h2]
 rw[e1,e2];exact h3
theorem yHE(n:Nat){t:TypeId}{de:DE}{ok:Nat->Prop}{v:Value}(h:Rep P ok w t v (de.eval X J))(hv:g.rv n=v):(zWD P n t de).den X J g=v/\(zWD P n t de).ok X J:=by
 unfold zWD;split
 ·rename_i k hu;obtain⟨m,h1,h2,h3⟩:=h.isInt hu;exact⟨by simp[SV.den,h2,D.asInt,h1],⟨m,h2,h3⟩⟩
 ·rename_i hu;obtain⟨m,h1,h2⟩:=h.isBool hu;exact⟨by simp[SV.den,h2,D.asBool,h1],⟨m,h2⟩⟩
 ·rename_i hu;obtain⟨m,h1,h2,h3⟩:=h.isStr hu;exact⟨by simp[SV.den,h2,D.asStr,h1],⟨_,h2,by rw[zLF];exact h3⟩⟩
 ·rename_i hu;obtain⟨m,h1,h2⟩:=h.isFlt hu;exact⟨by simp[SV.den,h2,D.asNat,h1],⟨m,h2⟩⟩
 ·exact⟨by simp[SV.den,hv],trivial⟩
theorem yHG(h:Mem P X w0 J st g w)(s:SV)(hs:s.ok X J):(norm P st s).den X J g=s.den X J g/\(norm P st s).ok X J:=by
 unfold norm;split
 ·rename_i n j;split
  ·rename_i vi hn;split
   ·rename_i u hr;split
    ·rename_i ct hj;have hc:=h.cell hn hr hj;unfold xQK;split
     ·rename_i k hu;obtain⟨m,h1,h2,h3⟩:=hc.isInt hu;exact⟨by rw[h1];simp only[SV.den,h2,D.asInt],⟨m,h2,h3⟩⟩
     ·rename_i hu;obtain⟨m,h1,h2⟩:=hc.isBool hu;exact⟨by rw[h1];simp only[SV.den,h2,D.asBool],⟨m,h2⟩⟩
     ·rename_i hu;obtain⟨m,h1,h2,h3⟩:=hc.isStr hu;exact⟨by rw[h1];simp only[SV.den,h2,D.asStr],⟨_,h2,by rw[zLF];exact h3⟩⟩
     ·rename_i hu;obtain⟨m,h1,h2⟩:=hc.isFlt hu;exact⟨by rw[h1];simp only[SV.den,h2,D.asNat],⟨m,h2⟩⟩
     ·exact⟨rfl,trivial⟩
    ·exact⟨rfl,hs⟩
   ·exact⟨rfl,hs⟩
  ·exact⟨rfl,hs⟩
 ·exact⟨rfl,hs⟩
mutual
theorem xBA(h:Mem P X w0 J st g w){t:TypeId}:∀ {s:SV} {e:DE},s.ok X J->svT P st t s=some e->Rep P (okOf st g w) w t (s.den X J g) (e.eval X J)
 | .i k d,e,hs,he=>by
  unfold svT at he;split at he
  ·rename_i k' hu;split at he
   ·rename_i hk;subst hk;cases he
    obtain⟨n,h1,h2⟩:=hs;rw[h1];simp only[SV.den,h1,D.asInt];exact .int hu h2
   ·cases he
  ·cases he
 | .b d,e,hs,he=>by
  unfold svT at he;split at he
  ·rename_i hu;cases he
   obtain⟨n,h1⟩:=hs;rw[h1];simp only[SV.den,h1,D.asBool];exact .bool hu
  ·cases he
 | .s d,e,hs,he=>by
  unfold svT at he;split at he
  ·rename_i hu;cases he
   obtain⟨n,h1,h2⟩:=hs;rw[h1];simp only[SV.den,h1,D.asStr]
   have:=Rep.str (P:=P) (ok:=okOf st g w) (w:=w) (s:=⟨n.toArray⟩) hu (by rw[<- zLF];simpa using h2)
   simpa using this
  ·cases he
 | .fl d,e,hs,he=>by
  unfold svT at he;split at he
  ·rename_i hu;cases he
   obtain⟨n,h1⟩:=hs;rw[h1];simp only[SV.den,h1,D.asNat];exact .flt hu
  ·cases he
 | .c .nilp,e,hs,he=>by
  unfold svT at he;split at he
  ·rename_i hu;cases he;exact .pnil hu
  ·cases he
 | .c .nils,e,hs,he=>by
  unfold svT at he;split at he
  ·rename_i hu;cases he;exact .snil hu
  ·cases he
 | .c .nilm,e,hs,he=>by
  unfold svT at he;split at he
  ·rename_i hu;cases he;exact .mnil hu
  ·cases he
 | .c .nilI,e,hs,he=>by simp[svT] at he
 | .c .nilF,e,hs,he=>by simp[svT] at he
 | .c (.fn _),e,hs,he=>by simp[svT] at he
 | .c (.glob _),e,hs,he=>by simp[svT] at he
 | .x n,e,hs,he=>by
  unfold svT at he;split at he
  ·rename_i vi hn;split at he
   ·rename_i hr;cases he;exact h.rest hn hr
   ·cases he
  ·cases he
 | .xc n j,e,hs,he=>by
  unfold svT at he;split at he
  ·rename_i vi hn;split at he
   ·rename_i u hr;split at he
    ·rename_i hj;cases he;exact h.cell hn hr hj
    ·cases he
   ·cases he
  ·cases he
 | .agg l,e,hs,he=>by
  unfold svT at he;split at he
  ·rename_i d hu;split at he
   ·rename_i hd;cases hl:svTs P st (tys P t) l with
    | none=>rw[hl] at he;simp at he
    | some ds =>
     rw[hl] at he;simp only[Option.map_some,Option.some.injEq] at he;subst he;obtain⟨h1,h2,h3,h4⟩:=xAG h (ts:=tys P t) hs hl;rw[zFA];simp only[Fn.eval,SV.den];refine .row hu hd h1 h2 h4 h3
   ·cases he
  ·cases he
 | .oa _ _,e,hs,he=>by simp[svT] at he
 | .osl _ _,e,hs,he=>by simp[svT] at he
 | .ea _ _ _ _,e,hs,he=>by simp[svT] at he
 | .ra _ _,e,hs,he=>by simp[svT] at he
 | .tup _,e,hs,he=>by simp[svT] at he
 | .w _ _,e,hs,he=>by simp[svT] at he
theorem xAG(h:Mem P X w0 J st g w):∀ {ts:List TypeId} {l:List SV} {ds:List DE},oks X J l->svTs P st ts l=some ds ->
  (dens X J g l).length=ts.length/\(zDA X ds J).length=ts.length /\
  (∀(j:Nat) (u:TypeId) (v:Value) (d:D),ts[j]? = some u->(dens X J g l)[j]? = some v->(zDA X ds J)[j]? = some d->Rep P (okOf st g w) w u v d) /\
  ∀v∈dens X J g l,v.cells = #[v]
 | [],[],ds,_,he=>by
  simp only[svTs,Option.some.injEq] at he;subst he
  simp[dens,zDA]
 | [],_::_,ds,_,he=>by simp[svTs] at he
 | _::_,[],ds,_,he=>by simp[svTs] at he
 | t::ts,a::as,ds,hs,he=>by
  unfold svTs at he;split at he
  case h_2=>cases he
  rename_i dt hut;split at he
  ·cases he
  rename_i hagg;split at he
  ·rename_i d ds' h1 h2;cases he;have hr:=xBA h hs.1 h1;obtain⟨i1,i2,i3,i4⟩:=xAG h hs.2 h2;refine⟨by simp[dens,i1],by simp[zDA,i2],?_,?_⟩
   ·intro j u v x hj hv hx;cases j with
    | zero=>simp[dens,zDA] at hj hv hx;subst hj;subst hv;subst hx;exact hr
    | succ j=>simp[dens,zDA] at hj hv hx;exact i3 j u v x hj hv hx
   ·intro v hv;simp only[dens,List.mem_cons] at hv;rcases hv with rfl|hv
    ·exact(hr.notAgg hut (by simpa using hagg)).1
    ·exact i4 v hv
  ·cases he
end
theorem qQC(h:Mem P X w0 J st g w){s:SV}{k:Kd}{e:DE}(hs:s.ok X J)(he:xSE P st s=some (k,e)):Shape k (s.den X J g) (e.eval X J):=by
 unfold xSE at he;split at he
 ·cases he;exact .slice rfl (by simp[D.isNil,DE.eval]) (by simp) (fun _=>rfl)
 ·cases he;exact .map (by simp[D.isNil,DE.eval]) (by simp[D.len,DE.eval])
 ·cases he;exact .ptr (by simp[D.isNil,DE.eval])
 ·cases he;obtain⟨n,h1,h2⟩:=hs;rw[h1];exact .str (by rw[<- zLF];simp[D.len,D.asStr,h1]) (by rw[<- zLF];simpa[D.asStr,h1] using h2)
 ·rename_i n;split at he
  ·rename_i u de hn;cases hk:kdT P u with
   | none=>rw[hk] at he;simp at he
   | some k'=>rw[hk] at he;simp at he;obtain⟨rfl,rfl⟩:=he;exact Rep.shape (h.va n _ hn) hk
  ·rename_i u de hn;cases hk:kdT P u with
   | none=>rw[hk] at he;simp at he
   | some k'=>rw[hk] at he;simp at he;obtain⟨rfl,rfl⟩:=he;exact Rep.shape (h.va n _ hn).1 hk
  ·rename_i u de hn;cases he;exact ySA.shape (h.va n _ hn)
  ·rename_i u de hn;cases he;exact TagsAt.shape (h.va n _ hn)
  ·cases he
 ·rename_i n j;split at he
  ·rename_i vi hn;split at he
   ·rename_i u hr;split at he
    ·rename_i ct hj;cases hk:kdT P ct with
     | none=>rw[hk] at he;simp at he
     | some k'=>rw[hk] at he;simp at he;obtain⟨rfl,rfl⟩:=he;exact Rep.shape (h.cell hn hr hj) hk
    ·cases he
   ·cases he
  ·cases he
 ·cases he
theorem qWD{v:Value}{s:SV}(h:yME v=some s):s.den X J g=v/\s.ok X J:=by
 unfold yME at h;split at h
 ·split at h
  ·rename_i hw;cases h;exact⟨rfl,⟨_,rfl,hw⟩⟩
  ·cases h
 ·cases h;exact⟨rfl,⟨_,rfl⟩⟩
 ·split at h
  ·rename_i s hsz;cases h;exact⟨rfl,⟨_,rfl,by rw[zLF];simp[maxLen];omega⟩⟩
  ·cases h
 ·cases h;exact⟨rfl,⟨_,rfl⟩⟩
 ·cases h;exact⟨rfl,trivial⟩
 ·cases h;exact⟨rfl,trivial⟩
 ·cases h;exact⟨rfl,trivial⟩
 ·cases h;exact⟨rfl,trivial⟩
 ·cases h;exact⟨rfl,trivial⟩
 ·cases h
theorem qNC:∀ {vs:List Value} {l:List SV},xRE vs=some l->dens X J g l=vs/\oks X J l
 | [],l,h=>by simp[xRE] at h;subst h;exact⟨rfl,trivial⟩
 | v::vs,l,h=>by
  simp only[xRE,Option.bind_eq_bind,Option.bind_eq_some_iff] at h;obtain⟨a,h1,as,h2,h3⟩:=h;cases h3;obtain⟨i1,i2⟩:=qWD (X:=X) (J:=J) (g:=g) h1;obtain⟨j1,j2⟩:=qNC (vs:=vs) h2;exact⟨by simp[dens,i1,j1],i2,j2⟩
theorem zUH{v:Value}{s:SV}(h:xRK v=some s):v=s.den X J g/\s.ok X J:=by
 unfold xRK at h;split at h
 ·rename_i cs;obtain⟨l,hl,rfl⟩:=Option.map_eq_some_iff.1 h;obtain⟨h1,h2⟩:=qNC (X:=X) (J:=J) (g:=g) hl;exact⟨by simp only[SV.den];rw[h1],by simpa only[SV.ok] using h2⟩
 ·obtain⟨h1,h2⟩:=qWD (X:=X) (J:=J) (g:=g) h;exact⟨h1.symm,h2⟩
theorem zJD(h:Env X J st g a){o:Operand}{s:SV}(ho:opd st o=some s):a.eval o=s.den X J g/\s.ok X J:=by
 cases o with
 | tmp t =>
  obtain⟨h1,h2⟩:=h.tm t s ho;exact⟨by simp[Act.eval,Array.getD_eq_getD_getElem?,h1],h2⟩
 | const v =>
  obtain⟨h1,h2⟩:=zUH (X:=X) (J:=J) (g:=g) ho;exact⟨h1,h2⟩
 | «global» n=>simp only[opd,Option.some.injEq] at ho;subst ho;exact⟨rfl,trivial⟩
 | func f=>simp only[opd,Option.some.injEq] at ho;subst ho;exact⟨rfl,trivial⟩
theorem qDA(h:Env X J st g a):∀ {os:List Operand} {l:List SV},opds st os=some l->os.map a.eval=dens X J g l/\oks X J l
 | [],l,ho=>by simp[opds] at ho;subst ho;exact⟨rfl,trivial⟩
 | o::os,l,ho=>by
  simp only[opds,Option.bind_eq_bind,Option.bind_eq_some_iff] at ho;obtain⟨b,h1,bs,h2,h3⟩:=ho;cases h3;obtain⟨i1,i2⟩:=zJD h h1;obtain⟨j1,j2⟩:=qDA h h2;exact⟨by simp[dens,i1,j1],i2,j2⟩
theorem zLD(h:Env X J st g a):∀ {os:List (Nat×Operand)} {l:List (Nat×SV)},yOG st os=some l->os.map (fun p=>(p.1,a.eval p.2))=l.map (fun p=>(p.1,p.2.den X J g)) /\ ∀p∈l,p.2.ok X J
 | [],l,ho=>by simp[yOG] at ho;subst ho;exact⟨rfl,by simp⟩
 | (i,o)::os,l,ho=>by
  simp only[yOG,Option.bind_eq_bind,Option.bind_eq_some_iff] at ho;obtain⟨b,h1,bs,h2,h3⟩:=ho;cases h3;obtain⟨i1,i2⟩:=zJD h h1;obtain⟨j1,j2⟩:=zLD h h2;refine⟨by simp[i1,j1],?_⟩;intro p hp;rcases List.mem_cons.1 hp with rfl|hp
  ·exact i2
  ·exact j2 p hp
end
end Go.Dx
namespace Go.Dx
open Go
section
variable {P:Program} {w:World}
theorem xSH{t:TypeId}{d:TypeDesc}(hu:P.underlying t=some d)(w:World):(isAgg t).run P w = .ok (zHA d) w:=by
 simp only[isAgg,Sem.run_bind,run_underlying hu,Result.andThen_ok];cases d <;> rfl
theorem xCA{t:TypeId}{i:TypeInfo}(hi:P.info? t=some i)(w:World):(sizeOf t).run P w = .ok i.size w:=by
 simp[sizeOf,typeInfo,hi]
theorem zTB(b off j:Nat):(⟨b,off,none⟩:Addr).add j=⟨b,off+j,none⟩:=by unfold Addr.add;split <;> simp_all
theorem yGB{t:TypeId}{d:TypeDesc}{i:TypeInfo}{b off:Nat}{vs:List Value}(hu:P.underlying t=some d)(hi:P.info? t=some i)(hc:xLA w b off vs)
  (hl:vs.length=if zHA d then i.size else 1) :
  (loadVar t ⟨b,off,none⟩).run P w = .ok (if zHA d then .agg vs.toArray else vs.getD 0 undef) w:=by
 simp only[loadVar,Sem.run_bind,xSH hu,Result.andThen_ok];cases hd:zHA d with
 | true =>
  rw[hd] at hl;simp only[if_true] at hl;have hrun:(loadCells ⟨b,off,none⟩ i.size).run P w = .ok vs.toArray w:=by
   rw[<- hl];exact run_loadCells_list w _ vs (fun j v hj=>by rw[zTB];exact hc j v hj)
  simp[xCA hi,hrun]
 | false =>
  rw[hd] at hl;simp at hl;obtain⟨v,rfl⟩:=List.length_eq_one_iff.1 hl
  have:=hc 0 v rfl
  simp only[Nat.add_zero] at this;simp[load,Sem.run,this]
theorem zZE{t ty:TypeId}{i:TypeInfo}{b off:Nat}{cur:Array Value}{v:Value}{vs:List Value}(hi:P.info? t=some i)
  (hg:w.heap[b]? = some (.cells cur ty (0,0))) (hv:v.cells.toList=vs) (hsz:vs.length=i.size) (hfit:off+vs.length<=cur.size) (h1:∀u∈vs,u.oneCell'=true) :
  (storeVar t ⟨b,off,none⟩ v).run P w = .ok () (w.setRow b (cur.toList.take off++vs++cur.toList.drop (off+vs.length)).toArray):=by
 have hst:=run_storeCells_at P b off ty vs 0 cur w hg (by simpa using hfit) h1;simp only[Nat.add_zero] at hst;have hsize:v.cells.size=i.size:=by rw[<- hsz,<- hv,Array.length_toList]
 simp[storeVar,xCA hi,hsize,hv,hst]
theorem zQD(b:Nat)(cs:Array Value)(w:World):Fr (fun x=>x=b) w (w.setRow b cs) :=
 ⟨rfl,rfl,rfl,by simp,fun k _ hk=>setRow_other w b k cs hk⟩
theorem qKB(e:TypeId)(cs:Array Value):(newRow e cs).run P w = .ok ⟨w.heap.size,0,none⟩ (w.alloc (.cells cs e)):=by
 simp[newRow]
theorem zIE{t:TypeId}{d:TypeDesc}(hu:P.underlying t=some d):∃i,P.info? t=some i:=by
 unfold Program.underlying at hu;split at hu
 ·exact⟨_,‹_›⟩
 ·exact⟨_,‹_›⟩
 ·cases hu
theorem xJB{o:Oper}{a:Act}{K:Act->World->Prop}{Q:Exit->Act->World->Prop}{v:Value}{w':World}(hr:(execOp a.eval o).run P w = .ok (.value v) w')(h:K (a.put o.dst v) w'):o.wp P a w K Q:=by
 unfold Oper.wp;rw[hr];exact h
theorem yOK{o:Oper}{a:Act}{K:Act->World->Prop}{Q:Exit->Act->World->Prop}{w':World}(hr:(execOp a.eval o).run P w = .ok .skip w')(h:K (a.put o.dst undef) w'):o.wp P a w K Q:=by
 unfold Oper.wp;rw[hr];exact h
theorem zCI{o:Oper}{a:Act}{K:Act->World->Prop}{Q:Exit->Act->World->Prop}{f:FuncId}{args:Array Value}{w':World}(hr:(execOp a.eval o).run P w = .ok (.enter f args) w')
  (h:Calls P f args w' fun e w''=>∃v,e = .returned v/\K (a.put o.dst v) w''):o.wp P a w K Q:=by
 unfold Oper.wp;rw[hr]
 exact h.mono fun e w'' ⟨v,he,hk⟩=>by subst he;exact hk
end
section
variable {P:Program} {X:Nat->List D->D} {w0:Base} {J:List D} {st:St} {g:Gh} {w:World} {a:Act}
theorem yIG(h:Mem P X w0 J st g w){s:SV}(hs:oneS P st s=true):(s.den X J g).oneCell'=true/\(s.den X J g).cells = #[s.den X J g]:=by
 have key:∀v:Value,v.cells = #[v]->v.oneCell'=true->v.oneCell'=true/\v.cells = #[v]:=fun v h1 h2=>⟨h2,h1⟩
 unfold oneS at hs;split at hs
 ·cases hs
 ·cases hs
 ·rename_i n;split at hs
  ·rename_i vi hn;have hv:=h.va n vi hn;obtain⟨vt,de⟩:=vi;cases vt with
   | set u =>
    simp only at hs;split at hs
    ·rename_i du hu
     have:=Rep.notAgg hv hu (by simpa using hs)
     exact⟨this.2.2,this.1⟩
    ·cases hs
   | own u =>
    exact(ySA.shape hv).one
   | tags u =>
    exact(TagsAt.shape hv).one
   | row u=>cases hs
   | dead=>cases hs
   | gi=>cases hs
  ·cases hs
 ·rename_i n j;split at hs
  ·rename_i vi hn;split at hs
   ·rename_i u hr;split at hs
    ·rename_i ct hj;split at hs
     ·rename_i du hu
      have:=(h.cell hn hr hj).notAgg hu (by simpa using hs)
      exact⟨this.2.2,this.1⟩
     ·cases hs
    ·cases hs
   ·cases hs
  ·cases hs
 ·rename_i h1 h2 h3 h4;cases s with
  | c c=>cases c <;> exact⟨rfl,rfl⟩
  | agg l=>exact absurd rfl (h1 l)
  | tup l=>exact absurd rfl (h2 l)
  | x n=>exact absurd rfl (h3 n)
  | xc n j=>exact absurd rfl (h4 n j)
  | i=>exact⟨rfl,rfl⟩
  | b=>exact⟨rfl,rfl⟩
  | s=>exact⟨rfl,rfl⟩
  | fl=>exact⟨rfl,rfl⟩
  | oa=>exact⟨rfl,rfl⟩
  | osl=>exact⟨rfl,rfl⟩
  | ra=>exact⟨rfl,rfl⟩
  | w k l =>
   cases k with
   | clo f=>exact⟨rfl,rfl⟩
   | ifc t=>exact⟨rfl,rfl⟩
   | pre k=>simp only[SV.den,WK.den];split <;> exact⟨rfl,rfl⟩
   | suf k=>simp only[SV.den,WK.den];split <;> exact⟨rfl,rfl⟩
  | ea n e k z =>
   obtain⟨b,hb⟩:=yEI ((e.eval X J).asInt.toNat*z+k) (g.rv n);simp only[SV.den,hb];exact⟨rfl,rfl⟩
theorem yJJ(h:Mem P X w0 J st g w){l:List SV}(hl:l.all (oneS P st)=true):∀v∈dens X J g l,v.oneCell'=true:=by
 intro v hv;rw[zSA] at hv;obtain⟨s,hs,rfl⟩:=List.mem_map.1 hv;exact(yIG h (List.all_eq_true.1 hl s hs)).1
theorem yHA(l:List SV):(dens X J g l).length=l.length:=by rw[zSA,List.length_map]
theorem yAI(n:Nat)(v:Value)(hv:g.rv n=v)(k off:Nat)(hk:off+k<=v.cells.size):dens X J g ((List.range k).map fun j=>SV.xc n (off+j))=(v.cells.toList.drop off).take k:=by
 rw[zSA,List.map_map];apply List.ext_getElem?;intro j;rw[List.getElem?_map,List.getElem?_take,List.getElem?_drop];by_cases hj:j<k
 ·rw[List.getElem?_range hj,if_pos hj]
  have:off+j<v.cells.size:=by omega
  simp[SV.den,hv,Array.getD_eq_getD_getElem?,this]
 ·rw[if_neg hj];simp[List.getElem?_eq_none,Nat.le_of_not_lt hj]
theorem oks_xc(n k off:Nat):oks X J ((List.range k).map fun j=>SV.xc n (off+j)):=by
 rw[yFA];intro s hs;obtain⟨j,_,rfl⟩:=List.mem_map.1 hs;trivial
theorem yED(h:Mem P X w0 J st g w){t:TypeId}{s:SV}{l:List SV}(hs:s.ok X J)(hf:flat P st t s=some l) :
  (s.den X J g).cells.toList=dens X J g l/\oks X J l/\(∀v∈dens X J g l,v.oneCell'=true):=by
 unfold flat at hf;split at hf
 ·rename_i d i hu hi;split at hf
  ·rename_i hd;split at hf
   ·rename_i n;split at hf
    ·rename_i vi hn;split at hf
     ·rename_i hc;split at hf
      ·rename_i hall;cases hf;have hr:=h.rest hn hc.1;have hsz:=hr.size;have e:=yAI (X:=X) (J:=J) (g:=g) n _ rfl i.size 0 (by rw[hsz.1];omega);simp only[Nat.zero_add,List.drop_zero] at e;refine⟨?_,by have:=oks_xc (X:=X) (J:=J) n i.size 0;simpa using this,yJJ h hall⟩;rw[e];simp only[SV.den];rw[List.take_of_length_le (by rw[Array.length_toList,hsz.1];omega)]
      ·cases hf
     ·cases hf
    ·cases hf
   ·split at hf
    ·rename_i hc;cases hf
     exact⟨by simp[SV.den,Value.cells],hs,yJJ h hc.2⟩
    ·cases hf
   ·cases hf
  ·split at hf
   ·rename_i ho;cases hf
    obtain⟨h1,h2⟩:=yIG h ho;exact⟨by rw[h2];simp[dens],⟨hs,trivial⟩,by intro v hv;simp[dens] at hv;subst hv;exact h1⟩
   ·cases hf
 ·cases hf
theorem zIJ{n:Nat}:∀(l:List SV) (j:Nat),yQD n j l=true->l=(List.range l.length).map fun k=>SV.xc n (j+k)
 | [],_,_=>rfl
 | .xc m k::r,j,h=>by
  simp only[yQD,baZ,beq_iff_eq] at h;obtain⟨⟨rfl,rfl⟩,h3⟩:=h;have ih:=zIJ r (k+1) h3;simp only[List.length_cons,List.range_succ_eq_map,List.map_cons,List.map_map,Nat.add_zero,List.cons.injEq,true_and]
  conv=>lhs;rw[ih]
  apply List.map_congr_left;intro x _;simp only[Function.comp_apply,Nat.succ_eq_add_one]
  congr 1
  omega
 | .i _ _::_,_,h=>by simp[yQD] at h
 | .b _::_,_,h=>by simp[yQD] at h
 | .s _::_,_,h=>by simp[yQD] at h
 | .fl _::_,_,h=>by simp[yQD] at h
 | .c _::_,_,h=>by simp[yQD] at h
 | .x _::_,_,h=>by simp[yQD] at h
 | .agg _::_,_,h=>by simp[yQD] at h
 | .oa _ _::_,_,h=>by simp[yQD] at h
 | .osl _ _::_,_,h=>by simp[yQD] at h
 | .ra _ _::_,_,h=>by simp[yQD] at h
 | .tup _::_,_,h=>by simp[yQD] at h
 | .w _ _::_,_,h=>by simp[yQD] at h
theorem qXA(h:Mem P X w0 J st g w){t:TypeId}{l:List SV}{s:SV}(hl:oks X J l)(hg:xBD P st t l=some s) :
  ∃d i,P.underlying t=some d/\P.info? t=some i/\l.length=(if zHA d then i.size else 1) /\
   s.den X J g=(if zHA d then .agg (dens X J g l).toArray else (dens X J g l).getD 0 undef)/\s.ok X J:=by
 unfold xBD at hg;split at hg
 ·rename_i d i hu hi;refine⟨d,i,hu,hi,?_⟩;cases hd:zHA d with
  | true =>
   rw[hd] at hg;simp only[if_true] at hg ⊢;split at hg
   ·rename_i hlen;refine⟨hlen,?_⟩;split at hg
    ·rename_i n r;split at hg
     ·rename_i vi hn;split at hg
      ·rename_i hc;cases hg;have hr:=h.rest hn hc.1;have he:=zIJ _ 0 hc.2.2.1;have hsz:=hr.size;have e:=yAI (X:=X) (J:=J) (g:=g) n _ rfl i.size 0 (by rw[hsz.1];omega);rw[he,hlen];simp only[Nat.zero_add,List.drop_zero] at e ⊢;rw[e];refine⟨?_,trivial⟩;simp only[SV.den];rw[List.take_of_length_le (by rw[Array.length_toList,hsz.1];omega)];simpa using(hr.isAgg hu hd).1
      ·cases hg;exact⟨by simp[SV.den],hl⟩
     ·cases hg;exact⟨by simp[SV.den],hl⟩
    ·cases hg;exact⟨by simp[SV.den],hl⟩
   ·cases hg
  | false =>
   rw[hd] at hg;simp only[bfZ,if_false] at hg ⊢;split at hg
   ·rename_i x;cases hg;obtain⟨h1,h2⟩:=yHG h x hl.1;exact⟨rfl,by rw[h1];simp[dens],h2⟩
   ·cases hg
 ·cases hg
theorem zNF{t:TypeId}{n:Nat}(h:qVD P t=some n):∃d i,P.underlying t=some d/\P.info? t=some i/\n=if zHA d then i.size else 1:=by
 unfold qVD at h;split at h
 ·rename_i d i hu hi;refine⟨d,i,hu,hi,?_⟩;split at h <;> simp_all
 ·cases h
theorem qGC.cells{o:Nat}{cs:List SV}(h:qGC X J g w o cs):xLA w (g.rb o) 0 (dens X J g cs):=by
 obtain⟨⟨t,h1⟩,_⟩:=h;intro j v hj;rw[Nat.zero_add,cell_of_row w (g.rb o) j _ t (0,0) h1];simpa using hj
theorem xYD(h:Mem P X w0 J st g w){t:TypeId}{p s:SV}(hl:yRI P st t p=some s):(Instr.loadAt t (p.den X J g)).run P w = .ok (s.den X J g) w/\s.ok X J:=by
 simp only[yRI,Option.bind_eq_bind,Option.bind_eq_some_iff] at hl;obtain⟨n,hn,hl⟩:=hl;obtain⟨d,i,hu,hi,rfl⟩:=zNF hn;split at hl
 ·rename_i o off;simp only[Option.bind_eq_some_iff] at hl;obtain⟨cs,ho,hg⟩:=hl;have hob:=h.ob o cs ho;have hoks:oks X J ((cs.drop off).take (if zHA d then i.size else 1)):=by
   rw[yFA];intro s hs;exact yFA.1 hob.2.2 s (List.mem_of_mem_drop (List.mem_of_mem_take hs))
  obtain⟨d',i',hu',hi',hlen,hden,hok⟩:=qXA h hoks hg;rw[hu] at hu';cases hu';rw[hi] at hi';cases hi'
  refine⟨?_,hok⟩;have hc:xLA w (g.rb o) off (dens X J g ((cs.drop off).take (if zHA d then i.size else 1))):=by
   have:=(hob.cells).part off (if zHA d then i.size else 1)
   rw[Nat.zero_add] at this;rw[zSA,List.map_take,List.map_drop,<- zSA];exact this
  have:=yGB hu hi hc (by rw[yHA,hlen])
  rw[hden];simpa[Instr.loadAt,Instr.sureAddr,SV.den] using this
 ·rename_i m off;split at hl
  ·rename_i u de hm;by_cases hle:off+(if zHA d then i.size else 1)<=(tys P u).length
   ·rw[if_pos hle] at hl;have hv:=h.va m _ hm;have hsz:=hv.1.size;obtain⟨d',i',hu',hi',hlen,hden,hok⟩:=qXA h (oks_xc m _ off) hl;rw[hu] at hu';cases hu';rw[hi] at hi';cases hi'
    refine⟨?_,hok⟩;have e:=yAI (X:=X) (J:=J) (g:=g) m _ rfl (if zHA d then i.size else 1) off (by rw[hsz.1];exact hle);have hc:xLA w (g.rh m).1 ((g.rh m).2+off) (dens X J g ((List.range (if zHA d then i.size else 1)).map fun j=>SV.xc m (off+j))):=by
     rw[e];exact hv.2.2.part off _
    have:=yGB hu hi hc (by rw[yHA,hlen])
    rw[hden];simpa[Instr.loadAt,Instr.sureAddr,SV.den] using this
   ·rw[if_neg hle] at hl;cases hl
  ·cases hl
 ·rename_i k;by_cases h0:(if zHA d then i.size else 1)=0
  ·rw[if_pos h0] at hl;obtain⟨d',i',hu',hi',hlen,hden,hok⟩:=qXA h (l:=[]) trivial hl;rw[hu] at hu';cases hu';rw[hi] at hi';cases hi'
   refine⟨?_,hok⟩;have hc:xLA w k 0 (dens X J g []):=fun j v hj=>by simp[dens] at hj
   have:=yGB hu hi hc (by rw[yHA,hlen])
   rw[hden];simpa[Instr.loadAt,Instr.sureAddr,SV.den,CV.den] using this
  ·rw[if_neg h0] at hl;cases hl
 ·cases hl
end
end Go.Dx
namespace Go.Dx
open Go
def LIM:Nat:=140737488355328
mutual
def Ob.holds(X:Nat->List D->D)(Pre:Nat->List D->Prop):Ob->List D->Prop
 | .room d n,J=>(d.eval X J).len*n<=LIM/\(d.eval X J).len<=maxLen
 | .cap d n,J=>0<=(d.eval X J).asInt/\(d.eval X J).asInt.toNat*n<=LIM/\(d.eval X J).asInt.toNat<=maxLen
 | .nz e,J=>(e.eval X J).asInt≠0
 | .ge0 e,J=>0<=(e.eval X J).asInt
 | .term lv go is bs,J=>∃n:Nat,(go.eval X (J.take lv++(.int n :: .int n::yIA (fun i r acc=>zDA X bs (J.take lv++(.int i::r::acc))) 0 (yWB n) (zDA X is J)))).asBool=false
 | .idx e d b,J=>0<=(e.eval X J).asInt/\(if b then (e.eval X J).asInt.toNat<(d.eval X J).len else (e.eval X J).asInt.toNat<=(d.eval X J).len)
 | .pre k l,J=>Pre k (zDA X l J)
 | .all s is bs os,J=>∀k,k<(s.eval X J).rows.length ->
   zCA X Pre os (J++(.int k::(s.eval X J).rows.getD k .nil::yIA (fun i r acc=>zDA X bs (J++(.int i::r::acc))) 0 ((s.eval X J).rows.take k) (zDA X is J)))
 | .when c b os,J=>(c.eval X J).asBool=b->zCA X Pre os J
def zCA(X:Nat->List D->D)(Pre:Nat->List D->Prop):List Ob->List D->Prop
 | [],_=>True
 | o::os,J=>o.holds X Pre J/\zCA X Pre os J
end
theorem zJA{X:Nat->List D->D}{Pre:Nat->List D->Prop}{J:List D}:∀ {l:List Ob},zCA X Pre l J ↔ ∀o∈l,o.holds X Pre J
 | []=>by simp[zCA]
 | o::os=>by simp[zCA,zJA (l:=os)]
structure Ext (st:St) (g:Gh) (st':St) (g':Gh):Prop where
 rv:∀n vi,lk n st.vars=some vi->(∃vi',lk n st'.vars=some vi')/\g'.rv n=g.rv n/\g'.rh n=g.rh n
 rb:∀o cs,lk o st.objs=some cs->(∃cs',lk o st'.objs=some cs')/\g'.rb o=g.rb o
theorem Ext.refl(st:St)(g:Gh):Ext st g st g:=⟨fun n vi h=>⟨⟨vi,h⟩,rfl,rfl⟩,fun o cs h=>⟨⟨cs,h⟩,rfl⟩⟩
theorem Ext.trans{s1 s2 s3:St}{g1 g2 g3:Gh}(h:Ext s1 g1 s2 g2)(k:Ext s2 g2 s3 g3):Ext s1 g1 s3 g3 :=
 ⟨fun n vi hn=>by
  obtain⟨⟨vi',h1⟩,h2,h3⟩:=h.rv n vi hn;obtain⟨h4,h5,h6⟩:=k.rv n vi' h1;exact⟨h4,h5.trans h2,h6.trans h3⟩,
  fun o cs ho=>by
  obtain⟨⟨c',h1⟩,h2⟩:=h.rb o cs ho;obtain⟨h4,h5⟩:=k.rb o c' h1;exact⟨h4,h5.trans h2⟩⟩
theorem Ext.keys{st st':St}{g:Gh}(hv:∀n vi,lk n st.vars=some vi -> ∃vi',lk n st'.vars=some vi')(ho:∀o cs,lk o st.objs=some cs -> ∃cs',lk o st'.objs=some cs'):Ext st g st' g :=
 ⟨fun n vi h=>⟨hv n vi h,rfl,rfl⟩,fun o cs h=>⟨ho o cs h,rfl⟩⟩
section
variable {P:Program} {X:Nat->List D->D} {w0:Base} {J:List D} {st:St} {g:Gh} {w:World} {a:Act}
theorem qHA{α:Type}{m:Nat}{b:α}{l:List (Nat×α)}(n:Nat)(x:α)(h:lk n l=some x):∃y,lk n (upd m b l)=some y:=by
 by_cases hm:m=n
 ·subst hm;exact⟨b,zZA⟩
 ·exact⟨x,by rw[yMA hm];exact h⟩
theorem xQB{α:Type}{m:Nat}{b:α}{l:List (Nat×α)}(n:Nat)(x:α)(h:lk n l=some x):∃y,lk n ((m,b)::l)=some y:=by
 by_cases hm:m=n
 ·subst hm;exact⟨b,zKA⟩
 ·exact⟨x,by rw[zIA hm];exact h⟩
theorem qGA{n:Nat}(hf:st.freshV n=true):lk n st.vars=none:=by
 simp only[St.freshV,baZ] at hf;simpa using hf.1.1.1
theorem yJI{n:Nat}(hf:st.freshO n=true):lk n st.objs=none:=by
 simp only[St.freshO,baZ] at hf;simpa using hf.1.1.1
theorem Env.setV(h:Env X J st g a){n:Nat}(hf:st.freshV n=true)(v:Value)(hm:Nat×Nat):Env X J st (g.setV n v hm) a:=by
 simp only[St.freshV,baZ,List.all_eq_true,Bool.not_eq_true'] at hf;refine⟨fun s sv hs=>?_,h.df,h.sz⟩;obtain⟨h1,h2⟩:=h.tm s sv hs;rw[yCD X J g n v hm sv (by simpa using hf.1.1.2 _ (qZA hs))];exact⟨h1,h2⟩
theorem Env.setO(h:Env X J st g a){n:Nat}(hf:st.freshO n=true)(b:Nat):Env X J st (g.setO n b) a:=by
 simp only[St.freshO,baZ,List.all_eq_true,Bool.not_eq_true'] at hf;refine⟨fun s sv hs=>?_,h.df,h.sz⟩;obtain⟨h1,h2⟩:=h.tm s sv hs;rw[xPG X J g n b sv (by simpa using hf.1.1.2 _ (qZA hs))];exact⟨h1,h2⟩
theorem Env.of_env(h:Env X J st g a){st':St}(he:st'.env=st.env)(hn:st'.nt=st.nt):Env X J st' g a :=
 ⟨fun s sv hs=>h.tm s sv (he▸hs),h.df,h.sz.trans hn.symm⟩
theorem Ext.setV{st':St}{n:Nat}(hf:lk n st.vars=none)(v:Value)(hm:Nat×Nat)(hv:∀n vi,lk n st.vars=some vi -> ∃vi',lk n st'.vars=some vi')(ho:∀o cs,lk o st.objs=some cs -> ∃cs',lk o st'.objs=some cs'):Ext st g st' (g.setV n v hm) :=
 ⟨fun m vi hmm=>by
  have hne:m≠n:=fun e=>by subst e;rw[hf] at hmm;cases hmm
  exact⟨hv m vi hmm,by simp[Gh.setV,hne],by simp[Gh.setV,hne]⟩,fun o cs h=>⟨ho o cs h,rfl⟩⟩
theorem Ext.setO{st':St}{n:Nat}(hf:lk n st.objs=none)(b:Nat)(hv:∀n vi,lk n st.vars=some vi -> ∃vi',lk n st'.vars=some vi')(ho:∀o cs,lk o st.objs=some cs -> ∃cs',lk o st'.objs=some cs'):Ext st g st' (g.setO n b) :=
 ⟨fun m vi hmm=>⟨hv m vi hmm,rfl,rfl⟩,fun o cs h=>by
  have hne:o≠n:=fun e=>by subst e;rw[hf] at h;cases h
  exact⟨ho o cs h,by simp[Gh.setO,hne]⟩⟩
theorem qKH(h:Mem P X w0 J st g w){t:TypeId}{p v:SV}{st':St}(hv:v.ok X J)(hs:xNL P st t p v=some st') :
  ∃w',(Instr.storeAt t (p.den X J g) (v.den X J g)).run P w = .ok () w'/\Mem P X w0 J st' g w'/\st'.env=st.env/\st'.nt=st.nt/\st'.obl=st.obl/\Ext st g st' g:=by
 simp only[xNL,Option.bind_eq_bind,Option.bind_eq_some_iff] at hs;obtain⟨l,hl,i,hi,hs⟩:=hs;obtain⟨hd,hok,h1⟩:=yED h hv hl;split at hs
 ·cases hs
 rename_i hlen;simp only[ne_eq,Decidable.not_not] at hlen;split at hs
 ·rename_i o off;simp only[Option.bind_eq_some_iff] at hs;obtain⟨cs,ho,hs⟩:=hs;split at hs
  ·rename_i hle;cases hs;obtain⟨⟨ty,hg⟩,ho1,ho2⟩:=h.ob o cs ho;have hst:=zZE (P:=P) (t:=t) (v:=v.den X J g) hi hg hd (by rw[yHA];exact hlen) (by rw[yHA];simp[yHA];exact hle) h1;have hnew:(dens X J g (cs.take off++l++cs.drop (off+l.length))).toArray=((dens X J g cs).toArray.toList.take off++dens X J g l++(dens X J g cs).toArray.toList.drop (off+(dens X J g l).length)).toArray:=by
    simp[zSA]
   refine⟨w.setRow (g.rb o) (dens X J g (cs.take off++l++cs.drop (off+l.length))).toArray,by rw[hnew];simp only[Instr.storeAt,Instr.sureAddr,SV.den,Sem.run_bind,Sem.run_pure,Result.andThen_ok];exact hst,?_,rfl,rfl,rfl,Ext.keys (fun n vi hn=>⟨vi,hn⟩) (fun p c hp=>qHA p c hp)⟩;refine h.setObj (t:=ty) ho ?_ (zQD _ _ _) ?_ ?_
   ·exact setRow_heap w _ _ _ _ _ hg
   ·intro u hu;rw[zSA,List.map_append,List.map_append,<- zSA,<- zSA,<- zSA] at hu;simp only[List.mem_append] at hu;rcases hu with(hu|hu)|hu
    ·refine ho1 u ?_;rw[zSA] at hu ⊢;rw[List.map_take] at hu;exact List.mem_of_mem_take hu
    ·exact h1 u hu
    ·refine ho1 u ?_;rw[zSA] at hu ⊢;rw[List.map_drop] at hu;exact List.mem_of_mem_drop hu
   ·rw[yFA];intro u hu;simp only[List.mem_append] at hu;rcases hu with(hu|hu)|hu
    ·exact yFA.1 ho2 u (List.mem_of_mem_take hu)
    ·exact yFA.1 hok u hu
    ·exact yFA.1 ho2 u (List.mem_of_mem_drop hu)
  ·cases hs
 ·cases hs
theorem yJD(h:Mem P X w0 J st g w)(he:Env X J st g a){cells:List SV}{n:Nat}{st':St}(t:TypeId)(hn:newO st cells n=some st')(h1:∀v∈dens X J g cells,v.oneCell'=true)(h2:oks X J cells) :
  Mem P X w0 J st' (g.setO n w.heap.size) (w.alloc (.cells (dens X J g cells).toArray t))/\Env X J st' (g.setO n w.heap.size) a/\Ext st g st' (g.setO n w.heap.size)/\(SV.oa n 0).den X J (g.setO n w.heap.size) = .pointer (some ⟨w.heap.size,0,none⟩)/\st'.obl=st.obl/\st'.env=st.env:=by
 unfold newO at hn;split at hn
 ·rename_i hc;cases hn;simp only[baZ,Bool.not_eq_true'] at hc;refine⟨h.newObj n cells t hc.1 h1 h2 hc.2,(he.setO hc.1 _).of_env rfl rfl,Ext.setO (yJI hc.1) _ (fun n vi hn=>⟨vi,hn⟩) (fun o cs ho=>xQB o cs ho),by simp[SV.den,Gh.setO],rfl,rfl⟩
 ·cases hn
theorem zDB{t:TypeId}{l:List SV}(h:qME P t=some l):∃i z,P.info? t=some i/\i.zero=some z/\dens X J g l=z.cells.toList/\oks X J l/\l.length=i.size:=by
 simp only[qME,Option.bind_eq_bind,Option.bind_eq_some_iff] at h;obtain⟨i,hi,z,hz,c,hc,h⟩:=h;split at h
 ·rename_i hlen;cases h
  obtain⟨h1,h2⟩:=qNC (X:=X) (J:=J) (g:=g) hc;exact⟨i,z,hi,hz,h1,h2,hlen⟩
 ·cases h
theorem zUI{v:Value}{s:SV}(h:yME v=some s):v.oneCell'=true:=by
 unfold yME at h;split at h <;> first|rfl|cases h
theorem zMG:∀ {vs:List Value} {l:List SV},xRE vs=some l -> ∀v∈vs,v.oneCell'=true
 | [],_,_=>by simp
 | v::vs,l,h=>by
  simp only[xRE,Option.bind_eq_bind,Option.bind_eq_some_iff] at h;obtain⟨a,h1,as,h2,h3⟩:=h;intro u hu;rcases List.mem_cons.1 hu with rfl|hu
  ·exact zUI h1
  ·exact zMG h2 u hu
theorem zYD{t:TypeId}{l:List SV}(h:qME P t=some l):∀v∈dens X J g l,v.oneCell'=true:=by
 obtain⟨i,z,hi,hz,hd,_,_⟩:=zDB (X:=X) (J:=J) (g:=g) h;rw[hd];simp only[qME,Option.bind_eq_bind,Option.bind_eq_some_iff] at h;obtain⟨i',hi',z',hz',c,hc,_⟩:=h;rw[hi] at hi';cases hi';rw[hz] at hz';cases hz'
 exact zMG hc
theorem qGB{t:TypeId}{i:TypeInfo}{z:Value}(hi:P.info? t=some i)(hz:i.zero=some z)(w:World):(zeroValue t).run P w = .ok z w:=by
 simp[zeroValue,typeInfo,hi,hz]
theorem xUI{t:TypeId}{i:TypeInfo}{z:Value}(hi:P.info? t=some i)(hz:i.zero=some z)(w:World)(old:Value) :
  (Instr.alloc t true old).run P w = .ok (.pointer (some ⟨w.heap.size,0,none⟩)) (w.alloc (.cells z.cells t)):=by
 simp only[Instr.alloc,Sem.run_bind,qGB hi hz,Result.andThen_ok,newVar,qKB,Sem.run_pure]
end
end Go.Dx
namespace Go.Dx
open Go
section
variable {P:Program} {X:Nat->List D->D} {w0:Base} {J:List D} {st:St} {g:Gh} {w:World} {a:Act}
theorem yIH(off:Nat):∀(l:List Value) (s:Nat) (cs:List Value),off+s+l.length<=cs.length ->
  ((l.zipIdx s).foldl (fun(cs:Array Value) (x:Value×Nat)=>cs.setIfInBounds (off+x.2) x.1) cs.toArray)=(cs.take (off+s)++l++cs.drop (off+s+l.length)).toArray
 | [],s,cs,_=>by simp
 | c::l,s,cs,h=>by
  have h':off+s<cs.length:=by simp at h;omega
  simp only[List.zipIdx_cons,List.foldl_cons];have e:cs.toArray.setIfInBounds (off+s) c=(cs.set (off+s) c).toArray:=by simp
  rw[e,yIH off l (s+1) _ (by simp at h ⊢;omega)]
  congr 1
  have e1:(cs.set (off+s) c).take (off+(s+1))=cs.take (off+s)++[c]:=by
   rw[<- Nat.add_assoc,List.take_add_one]
   congr 1
   ·rw[List.take_set_of_le (Nat.le_refl _)]
   ·simp[h']
  have e2:(cs.set (off+s) c).drop (off+(s+1)+l.length)=cs.drop (off+s+(c::l).length):=by
   rw[List.drop_set_of_lt (by omega)]
   congr 1
   simp;omega
  rw[e1,e2]
  simp
theorem qGK{place:Nat->Option (Nat×Nat)}{i off size:Nat}{v:Value}{vs:List Value}{cs:List Value}{rest:List (Nat×Value)}(hp:place i=some (off,size))(hv:v.cells.toList=vs)(hsz:vs.length=size)
  (hle:off+vs.length<=cs.length):Instr.fill place cs.toArray ((i,v)::rest)=Instr.fill place (cs.take off++vs++cs.drop (off+vs.length)).toArray rest:=by
 have h1:v.cells.size=vs.length:=by rw[<- hv,Array.length_toList]
 have hf:=yIH off vs 0 cs (by simpa using hle);simp only[Nat.add_zero] at hf
 conv=>lhs;unfold Instr.fill
 rw[hp];simp only;rw[if_neg (by simp[h1,hsz];omega)];rw[<- hf,<- hv,<- Array.foldl_toList,Array.toList_zipIdx]
theorem xGC(h:Mem P X w0 J st g w){place:Nat->Option (Nat×TypeId)}{place':Nat->Option (Nat×Nat)}
  (hpl:∀i off t ti,place i=some (off,t)->P.info? t=some ti->place' i=some (off,ti.size)) :
  ∀ {parts:List (Nat×SV)} {cs l:List SV},(∀p∈parts,p.2.ok X J)->oks X J cs->(∀v∈dens X J g cs,v.oneCell'=true)->xTG P st place cs parts=some l ->
   Instr.fill place' (dens X J g cs).toArray (parts.map fun p=>(p.1,p.2.den X J g))=some (dens X J g l).toArray/\oks X J l/\l.length=cs.length/\(∀v∈dens X J g l,v.oneCell'=true)
 | [],cs,l,_,hc,h1,hf=>by simp[xTG] at hf;subst hf;exact⟨by simp[Instr.fill],hc,rfl,h1⟩
 | (i,v)::parts,cs,l,hp,hc,h1,hf=>by
  simp only[xTG,Option.bind_eq_bind,Option.bind_eq_some_iff] at hf;obtain⟨⟨off,t⟩,hpi,fl,hfl,ti,hti,hf⟩:=hf;split at hf
  ·rename_i hlen;obtain⟨hd,hok,hone⟩:=yED h (hp (i,v) (by simp)) hfl;have hnew:dens X J g (cs.take off++fl++cs.drop (off+fl.length))=(dens X J g cs).take off++dens X J g fl++(dens X J g cs).drop (off+(dens X J g fl).length):=by simp[zSA]
   have hstep:=qGK (place:=place') (rest:=parts.map fun p=>(p.1,p.2.den X J g)) (hpl i off t ti hpi hti) hd (by rw[yHA];exact hlen.1) (cs:=dens X J g cs) (by rw[yHA,yHA];exact hlen.2);obtain⟨i1,i2,i3,i4⟩:=xGC h hpl (parts:=parts) (fun p hpp=>hp p (List.mem_cons_of_mem _ hpp)) (cs:=cs.take off++fl++cs.drop (off+fl.length)) (by
    rw[yFA];intro u hu;simp only[List.mem_append] at hu;rcases hu with(hu|hu)|hu
    ·exact yFA.1 hc u (List.mem_of_mem_take hu)
    ·exact yFA.1 hok u hu
    ·exact yFA.1 hc u (List.mem_of_mem_drop hu)) (by
    intro u hu;rw[hnew] at hu;simp only[List.mem_append] at hu;rcases hu with(hu|hu)|hu
    ·exact h1 u (List.mem_of_mem_take hu)
    ·exact hone u hu
    ·exact h1 u (List.mem_of_mem_drop hu)) hf
   refine⟨?_,i2,?_,i4⟩
   ·simp only[List.map_cons];rw[hstep,<- hnew];exact i1
   ·rw[i3]
    simp
    omega
  ·cases hf
theorem zWF{s:TypeId}{f off:Nat}{t:TypeId}(h:zAE P s f=some (off,t)):∃fs fd i,P.underlying s=some (.struct fs)/\fs[f]? = some fd/\P.info? fd.type=some i/\i.size≠0/\fd.offset=off/\fd.type=t:=by
 unfold zAE at h;split at h
 ·rename_i fs hu;simp only[Option.bind_eq_bind,Option.bind_eq_some_iff] at h;obtain⟨fd,hfd,i,hi,h⟩:=h;split at h
  ·cases h
  ·rename_i hne;cases h;exact⟨fs,fd,i,hu,hfd,hi,hne,rfl,rfl⟩
 ·cases h
theorem zAC{s:TypeId}{f off:Nat}{t:TypeId}(h:zAE P s f=some (off,t))(b o:Nat)(w:World) :
  (Instr.fieldAt s (.pointer (some ⟨b,o,none⟩)) f).run P w = .ok (.pointer (some ⟨b,o+off,none⟩)) w:=by
 obtain⟨fs,fd,i,hu,hfd,hi,hne,h1,h2⟩:=zWF h;simp only[Instr.fieldAt,Sem.run_bind,run_underlying hu,Result.andThen_ok,hfd,Instr.sureAddr,Sem.run_pure,fieldPlace,xCA hi];rw[if_neg hne];simp[zTB,h1]
theorem yXG:∀(fs:List Go.Field) (hall:fs.all (fun f=>(P.info? f.type).isSome)=true) (w:World),
  (fs.mapM (fun f=>do pure (f.offset,<- sizeOf f.type):Go.Field->Sem (Nat×Nat))).run P w = .ok (fs.map fun f=>(f.offset,((P.info? f.type).map (·.size)).getD 0)) w
 | [],_,w=>by simp
 | f::fs,hall,w=>by
  simp only[List.all_cons,baZ] at hall;obtain⟨i,hi⟩:=Option.isSome_iff_exists.1 hall.1;have ih:=yXG fs hall.2 w;simp only[bind_pure_comp] at ih ⊢;simp[List.mapM_cons,xCA hi,ih,hi]
def yYA(P:Program)(X:Nat->List D->D)(w0:Base)(J:List D)(st:St)(g:Gh)(w:World)(a:Act)(o:Oper)(s:SV)(st':St):Prop :=
 ∀(K:Act->World->Prop) (Q:Exit->Act->World->Prop),
  (∀g' w',Ext st g st' g'->Mem P X w0 J st' g' w'->Env X J st' g' a->s.ok X J->K (a.put o.dst (s.den X J g')) w')->o.wp P a w K Q
theorem yYA.quiet(h:Mem P X w0 J st g w)(he:Env X J st g a){o:Oper}{s:SV}(hr:(execOp a.eval o).run P w = .ok (.value (s.den X J g)) w)(hs:s.ok X J):yYA P X w0 J st g w a o s st :=
 fun K Q hK=>xJB hr (hK g w (Ext.refl st g) h he hs)
theorem yPC{k:IntKind}{n:Int}(h:(Lit.int k n).wf=true):k.min<=n/\n<=k.max:=by
 simpa[Lit.wf] using h
theorem zOC{k:IntKind}{n:Int}(h:k.min<=n/\n<=k.max):(Lit.int k n).wf=true:=by
 simpa[Lit.wf] using h
theorem qMI{k:IntKind}{n:Int}(h:(Lit.int k n).wf=true)(m:Nat):(Lit.int k (n.fdiv (2 ^ m))).wf=true:=by
 have hb:=yPC h;apply zOC;have hp:(1:Int)<=2 ^ m:=by
  have:(0:Int)<2 ^ m:=Int.pow_pos (by omega)
  omega
 generalize hq:(2:Int) ^ m=q at hp;have h0:k.min<=0/\0<=k.max:=by cases k <;> simp[IntKind.min,IntKind.max,IntKind.signed,IntKind.bits]
 rw[Int.fdiv_eq_ediv_of_nonneg _ (by omega)];constructor
 ·by_cases hn:0<=n
  ·have:=Int.ediv_nonneg hn (show (0:Int)<=q by omega);omega
  ·have:n<=n / q:=by
    have h1:=Int.mul_ediv_add_emod n q;have h2:=Int.emod_nonneg n (show q≠0 by omega);have h3:=Int.emod_lt_of_pos n (show 0<q by omega)
    have:n / q<=0:=by
     have:=Int.ediv_lt_of_lt_mul (show 0<q by omega) (show n<1*q by omega)
     omega
    have h4:q*(n / q)<=1*(n / q):=Int.mul_le_mul_of_nonpos_right hp this;by_cases hlt:n<=n / q
    ·exact hlt
    ·exfalso;have h5:=Int.mul_ediv_self_le (x:=n) (k:=q) (by omega);have h6:q*(n / q)+q>n:=by omega
     have h7:n / q<n:=by omega
     have h8:n / q+1<=n:=by omega
     have h9:q*(n / q+1)<=1*(n / q+1):=by
      by_cases h10:n / q+1<=0
      ·exact Int.mul_le_mul_of_nonpos_right hp h10
      ·omega
     have h10:q*(n / q+1)=q*(n / q)+q:=by rw[Int.mul_add,Int.mul_one]
     omega
   omega
 ·by_cases hn:0<=n
  ·have:=Int.ediv_le_self q hn;omega
  ·have:=Int.ediv_lt_of_lt_mul (show 0<q by omega) (show n<1*q by omega)
   omega
theorem tmodLe(n m:Int)(h:0<=n):n.tmod m<=n:=by
 obtain⟨a,rfl⟩:=Int.eq_ofNat_of_zero_le h;have e:((a:Int).tmod m)=((a%m.natAbs:Nat):Int):=by
  cases m with
  | ofNat k=>rfl
  | negSucc k=>rfl
 rw[e]
 have:=Nat.mod_le a m.natAbs
 omega
theorem qRL{k:IntKind}{n m:Int}(h:(Lit.int k n).wf=true)(h0:m≠0):(Lit.int k (n.tmod m)).wf=true:=by
 have hb:=yPC h;apply zOC;have h1:k.min<=0/\0<=k.max:=by cases k <;> simp[IntKind.min,IntKind.max,IntKind.signed,IntKind.bits]
 by_cases hn:0<=n
 ·have:=Int.tmod_nonneg m hn
  have h2:=tmodLe n m hn;omega
 ·have h2:(n.tmod m) = -((-n).tmod m):=by rw[Int.neg_tmod,Int.neg_neg]
  have h3:=Int.tmod_nonneg m (show 0 <= -n by omega);have h4:=tmodLe (-n) m (by omega);omega
end
end Go.Dx
namespace Go.Dx
open Go
section
variable {P:Program} {X:Nat->List D->D} {w0:Base} {J:List D} {st:St} {g:Gh} {w:World} {a:Act}
theorem zPC{k:IntKind}{e:DE}{n:Int}(h:e.eval X J = .int n)(hw:(Lit.int k n).wf=true):(SV.i k e).ok X J:=⟨n,h,hw⟩
theorem qBC{e:DE}{b:Bool}(h:e.eval X J = .bool b):(SV.b e).ok X J:=⟨b,h⟩
theorem binS_int(k:IntKind)(e1 e2:DE)(n m:Int)(h1:e1.eval X J = .int n)(h2:e2.eval X J = .int m)(hn:(Lit.int k n).wf=true)(op:BinOp)(t:TypeId)(s:SV)
  (hs:binS P st t op (.i k e1) (.i k e2)=some s):(binOp op t (.int k n) (.int k m)).run P w = .ok (s.den X J g) w/\s.ok X J:=by
 cases op <;> simp only[binS,if_true,reduceCtorEq] at hs
 case add=>cases hs;exact⟨by simp[binOp,Op.intArith,SV.den,zFA,zDA,Fn.eval,h1,h2,D.asInt],zPC (by rw[zFA];rfl) (yCC _ _)⟩
 case sub=>cases hs;exact⟨by simp[binOp,Op.intArith,SV.den,zFA,zDA,Fn.eval,h1,h2,D.asInt],zPC (by rw[zFA];rfl) (yCC _ _)⟩
 case mul=>cases hs;exact⟨by simp[binOp,Op.intArith,SV.den,zFA,zDA,Fn.eval,h1,h2,D.asInt],zPC (by rw[zFA];rfl) (yCC _ _)⟩
 case and=>cases hs;exact⟨by simp[binOp,Op.intBits,SV.den,zFA,zDA,Fn.eval,h1,h2,D.asInt],zPC (by rw[zFA];rfl) (yCC _ _)⟩
 case or=>cases hs;exact⟨by simp[binOp,Op.intBits,SV.den,zFA,zDA,Fn.eval,h1,h2,D.asInt],zPC (by rw[zFA];rfl) (yCC _ _)⟩
 case xor=>cases hs;exact⟨by simp[binOp,Op.intBits,SV.den,zFA,zDA,Fn.eval,h1,h2,D.asInt],zPC (by rw[zFA];rfl) (yCC _ _)⟩
 case eql=>cases hs;exact⟨by simp[binOp,Op.intCmp,SV.den,zFA,zDA,Fn.eval,h1,h2,D.asInt,D.asBool],qBC (by rw[zFA];rfl)⟩
 case neq=>cases hs;exact⟨by simp[binOp,Op.intCmp,SV.den,zFA,zDA,Fn.eval,h1,h2,D.asInt,D.asBool],qBC (by rw[zFA];rfl)⟩
 case lss=>cases hs;exact⟨by simp[binOp,Op.intCmp,SV.den,zFA,zDA,Fn.eval,h1,h2,D.asInt,D.asBool];exact decide_eq_decide.2 Iff.rfl,qBC (by rw[zFA];rfl)⟩
 case leq=>cases hs;exact⟨by simp[binOp,Op.intCmp,SV.den,zFA,zDA,Fn.eval,h1,h2,D.asInt,D.asBool];exact decide_eq_decide.2 Iff.rfl,qBC (by rw[zFA];rfl)⟩
 case gtr=>cases hs;exact⟨by simp[binOp,Op.intCmp,SV.den,zFA,zDA,Fn.eval,h1,h2,D.asInt,D.asBool];exact decide_eq_decide.2 Iff.rfl,qBC (by rw[zFA];rfl)⟩
 case geq=>cases hs;exact⟨by simp[binOp,Op.intCmp,SV.den,zFA,zDA,Fn.eval,h1,h2,D.asInt,D.asBool];exact decide_eq_decide.2 Iff.rfl,qBC (by rw[zFA];rfl)⟩
 case quo =>
  split at hs
  ·rename_i c;split at hs
   ·cases hs
   ·rename_i hc;cases hs
    simp only[DE.eval,D.int.injEq] at h2;subst h2
    exact⟨by simp[binOp,Op.intDiv,hc,SV.den,zFA,zDA,Fn.eval,h1,DE.eval,D.asInt],zPC (by rw[zFA];rfl) (yCC _ _)⟩
  ·cases hs
 case rem =>
  split at hs
  ·rename_i c;split at hs
   ·cases hs
   ·rename_i hc;cases hs
    simp only[DE.eval,D.int.injEq] at h2;subst h2
    refine⟨by simp[binOp,Op.intDiv,hc,SV.den,zFA,zDA,Fn.eval,h1,DE.eval,D.asInt],zPC (by rw[zFA];rfl) ?_⟩;simp only[zDA,h1,DE.eval,D.asInt];exact qRL hn hc
  ·cases hs
 case shl =>
  split at hs
  ·rename_i c;split at hs
   ·rename_i hc;cases hs
    simp only[DE.eval,D.int.injEq] at h2;subst h2
    have hc':¬c<0:=by omega
    exact⟨by simp[binOp,Op.shift,hc',SV.den,zFA,zDA,Fn.eval,h1,DE.eval,D.asInt,shlI],zPC (by rw[zFA];rfl) (yCC _ _)⟩
   ·cases hs
  ·cases hs
 case shr =>
  split at hs
  ·rename_i c;split at hs
   ·rename_i hc;cases hs
    simp only[DE.eval,D.int.injEq] at h2;subst h2
    have hc':¬c<0:=by omega
    refine⟨by simp[binOp,Op.shift,hc',SV.den,zFA,zDA,Fn.eval,h1,DE.eval,D.asInt,shrI],zPC (by rw[zFA];rfl) ?_⟩;simp only[zDA,h1,DE.eval,D.asInt,shrI];exact qMI hn _
   ·cases hs
  ·cases hs
theorem qGJ(k k':IntKind)(hk:k≠k')(e1 e2:DE)(n m:Int)(h1:e1.eval X J = .int n)(h2:e2.eval X J = .int m)(hn:(Lit.int k n).wf=true)(op:BinOp)(t:TypeId)(s:SV)
  (hs:binS P st t op (.i k e1) (.i k' e2)=some s):(binOp op t (.int k n) (.int k' m)).run P w = .ok (s.den X J g) w/\s.ok X J:=by
 cases op <;> simp only[binS,hk,if_false,reduceCtorEq] at hs
 case shl =>
  split at hs
  ·rename_i c;split at hs
   ·rename_i hc;cases hs
    simp only[DE.eval,D.int.injEq] at h2;subst h2
    have hc':¬c<0:=by omega
    exact⟨by simp[binOp,Op.shift,hc',SV.den,zFA,zDA,Fn.eval,h1,DE.eval,D.asInt,shlI],zPC (by rw[zFA];rfl) (yCC _ _)⟩
   ·cases hs
  ·cases hs
 case shr =>
  split at hs
  ·rename_i c;split at hs
   ·rename_i hc;cases hs
    simp only[DE.eval,D.int.injEq] at h2;subst h2
    have hc':¬c<0:=by omega
    refine⟨by simp[binOp,Op.shift,hc',SV.den,zFA,zDA,Fn.eval,h1,DE.eval,D.asInt,shrI],zPC (by rw[zFA];rfl) ?_⟩;simp only[zDA,h1,DE.eval,D.asInt,shrI];exact qMI hn _
   ·cases hs
  ·cases hs
theorem xCB{op:BinOp}{t:TypeId}{x y:Operand}{u v:Value}(hu:u.oneCell'=true)(hi:u ≠ .nilIface)(w:World):(eqGuard op t x y u v).run P w = .ok () w:=by
 cases op <;> first|rfl|(cases u <;> first|rfl|(exact absurd rfl hi)|(simp[Value.oneCell'] at hu))
theorem xJE(d:Nat){t e:TypeId}(hu:P.underlying t=some (.slice e))(a:Option Addr)(n c:Nat)(w:World) :
  (Op.equalIn (d+1) t (.slice a n c) (.slice none 0 0)).run P w = .ok a.isNone w:=by
 unfold Op.equalIn;simp only[Sem.run_bind,run_underlying hu,Result.andThen_ok];cases a <;> rfl
theorem xTF(d:Nat){t e:TypeId}(hu:P.underlying t=some (.pointer e))(a:Option Addr)(w:World) :
  (Op.equalIn (d+1) t (.pointer a) (.pointer none)).run P w = .ok a.isNone w:=by
 unfold Op.equalIn;simp only[Sem.run_bind,run_underlying hu,Result.andThen_ok];cases a <;> rfl
theorem xSF(d:Nat){t k e:TypeId}(hu:P.underlying t=some (.map k e))(a:Option Nat)(w:World) :
  (Op.equalIn (d+1) t (.map a) (.map none)).run P w = .ok a.isNone w:=by
 unfold Op.equalIn;simp only[Sem.run_bind,run_underlying hu,Result.andThen_ok];cases a <;> rfl
theorem zCD{α:Type}{a:Option α}{d:D}(ha:a=none↔d.isNil=true):a.isNone=d.isNil:=by
 cases a <;> cases h:d.isNil <;> simp_all
theorem xRH{t:TypeId}{kd:Kd}(hk:kdT P t=some kd){v:Value}{d:D}(hsh:Shape kd v d)(c:CV)(hc:cvKd c=some kd)(w:World) :
  (binOp .eql t v c.den).run P w = .ok (.bool d.isNil) w/\(binOp .neq t v c.den).run P w = .ok (.bool (!d.isNil)) w:=by
 have key:∀(v u:Value) (b:Bool),(Op.equal t v u).run P w = .ok b w->binOp .eql t v u=(do pure (.bool (<- Op.equal t v u)))->binOp .neq t v u=(do pure (.bool (!(<- Op.equal t v u)))) ->
   (binOp .eql t v u).run P w = .ok (.bool b) w/\(binOp .neq t v u).run P w = .ok (.bool (!b)) w:=by
  intro v u b h1 h2 h3;rw[h2,h3];constructor
  ·rw[Sem.run_bind,h1];rfl
  ·rw[Sem.run_bind,h1];rfl
 unfold kdT at hk;cases hu:P.underlying t with
 | none=>rw[hu] at hk;simp at hk
 | some td =>
  rw[hu] at hk;cases hsh with
  | slice hn ha hm h0 =>
   cases td <;> simp[kdOf] at hk
   cases c <;> simp[cvKd] at hc
   rw[<- zCD ha];exact key _ _ _ (xJE 9999 hu _ _ _ w) rfl rfl
  | ptr ha =>
   cases td <;> simp[kdOf] at hk
   cases c <;> simp[cvKd] at hc
   rw[<- zCD ha];exact key _ _ _ (xTF 9999 hu _ w) rfl rfl
  | map ha hl =>
   cases td <;> simp[kdOf] at hk
   cases c <;> simp[cvKd] at hc
   rw[<- zCD ha];exact key _ _ _ (xSF 9999 hu _ w) rfl rfl
  | str hn hm =>
   cases c <;> simp[cvKd] at hc
theorem binS_nil(h:Mem P X w0 J st g w){t:TypeId}{op:BinOp}{x s:SV}{c:CV}(hx:x.ok X J)(hs:binS P st t op x (.c c)=some s) :
  (binOp op t (x.den X J g) c.den).run P w = .ok (s.den X J g) w/\s.ok X J/\(x.den X J g).oneCell'=true/\x.den X J g ≠ .nilIface:=by
 have hs':∃kd,cvKd c=some kd/\kdT P t=some kd /\
   (((∃o off,x = .oa o off)/\kd = .pt/\((op = .eql/\s = .b (.k (.bool false)))∨(op = .neq/\s = .b (.k (.bool true))))) ∨
    (∃d,xSE P st x=some (kd,d)/\((op = .eql/\s = .b (mkf .isNil [d]))∨(op = .neq/\s = .b (mkf .not [mkf .isNil [d]]))))):=by
  have hs2:nilS P st t op x c=some s:=by
   rw[<- hs];cases x <;> rfl
  unfold nilS at hs2;split at hs2
  ·cases hs2
  ·rename_i kd hkd;refine⟨kd,hkd,?_⟩;split at hs2
   ·rename_i hkt;refine⟨hkt,?_⟩;split at hs2
    ·left;split at hs2
     ·rename_i hp;refine⟨⟨_,_,rfl⟩,hp,?_⟩;cases op <;> simp only[reduceCtorEq,Option.some.injEq] at hs2
      ·left;exact⟨rfl,hs2.symm⟩
      ·right;exact⟨rfl,hs2.symm⟩
     ·cases hs2
    ·right;split at hs2
     ·rename_i kd' d hd;split at hs2
      ·rename_i hkk;subst hkk;refine⟨d,hd,?_⟩;cases op <;> simp only[reduceCtorEq,Option.some.injEq] at hs2
       ·left;exact⟨rfl,hs2.symm⟩
       ·right;exact⟨rfl,hs2.symm⟩
      ·cases hs2
     ·cases hs2
   ·cases hs2
 obtain⟨kd,hc,hkt,hh⟩:=hs';rcases hh with⟨⟨o,off,rfl⟩,rfl,hop⟩|⟨d,hd,hop⟩
 ·have hsh:Shape .pt ((SV.oa o off).den X J g) (.ptr .nil):=.ptr (by simp[D.isNil]);obtain⟨r1,r2⟩:=xRH hkt hsh c hc w;rcases hop with⟨rfl,rfl⟩|⟨rfl,rfl⟩
  ·exact⟨by rw[r1];rfl,qBC rfl,rfl,by simp[SV.den]⟩
  ·exact⟨by rw[r2];rfl,qBC rfl,rfl,by simp[SV.den]⟩
 ·have hsh:=qQC h hx hd;obtain⟨r1,r2⟩:=xRH hkt hsh c hc w;have hne:x.den X J g ≠ .nilIface:=by
   generalize x.den X J g=v at hsh;generalize d.eval X J=dd at hsh;cases hsh <;> simp
  rcases hop with⟨rfl,rfl⟩|⟨rfl,rfl⟩
  ·exact⟨by rw[r1];simp[SV.den,zFA,zDA,Fn.eval,D.asBool],qBC (by rw[zFA];rfl),hsh.one.1,hne⟩
  ·exact⟨by rw[r2];simp[SV.den,zFA,zDA,Fn.eval,D.asBool],qBC (by rw[zFA];rfl),hsh.one.1,hne⟩
theorem eqBool{t:TypeId}(hu:P.underlying t=some .bool)(a b:Bool)(w:World):(binOp .eql t (.bool a) (.bool b)).run P w = .ok (.bool (a==b)) w/\(binOp .neq t (.bool a) (.bool b)).run P w = .ok (.bool (!(a==b))) w:=by
 have h1:(Op.equal t (.bool a) (.bool b)).run P w = .ok (a==b) w:=by
  show (Op.equalIn (9999+1) t (.bool a) (.bool b)).run P w=_;unfold Op.equalIn;simp only[Sem.run_bind,run_underlying hu,Result.andThen_ok,Sem.run_pure]
 constructor
 ·show (do pure (Value.bool (<- Op.equal t (.bool a) (.bool b))):Sem Value).run P w=_;rw[Sem.run_bind,h1];rfl
 ·show (do pure (Value.bool (!(<- Op.equal t (.bool a) (.bool b)))):Sem Value).run P w=_;rw[Sem.run_bind,h1];rfl
theorem qHJ(h:Mem P X w0 J st g w){t:TypeId}{op:BinOp}{x y s:SV}(hx:x.ok X J)(hy:y.ok X J)(hs:binS P st t op x y=some s) :
  (binOp op t (x.den X J g) (y.den X J g)).run P w = .ok (s.den X J g) w/\s.ok X J/\(x.den X J g).oneCell'=true/\x.den X J g ≠ .nilIface:=by
 cases y with
 | c c=>exact binS_nil h hx hs
 | i k' e2 =>
  cases x with
  | i k e1 =>
   obtain⟨n,h1,hn⟩:=hx;obtain⟨m,h2,hm⟩:=hy;by_cases hk:k=k'
   ·subst hk
    have:=binS_int (g:=g) (w:=w) k e1 e2 n m h1 h2 hn op t s hs
    refine⟨?_,this.2,rfl,by simp[SV.den]⟩;simp only[SV.den,h1,h2,D.asInt];exact this.1
   ·have:=qGJ (g:=g) (w:=w) k k' hk e1 e2 n m h1 h2 hn op t s hs
    refine⟨?_,this.2,rfl,by simp[SV.den]⟩;simp only[SV.den,h1,h2,D.asInt];exact this.1
  | _=>simp[binS] at hs
 | s e2 =>
  cases x with
  | s e1 =>
   obtain⟨n,h1,hn⟩:=hx;obtain⟨m,h2,hm⟩:=hy;cases op <;> simp only[binS,reduceCtorEq] at hs
   case eql =>
    cases hs;exact⟨by simp[binOp,Op.stringOp,SV.den,zFA,zDA,Fn.eval,h1,h2,D.asStr,D.asBool],qBC (by rw[zFA];rfl),rfl,by simp[SV.den]⟩
   case neq =>
    cases hs;exact⟨by simp[binOp,Op.stringOp,SV.den,zFA,zDA,Fn.eval,h1,h2,D.asStr,D.asBool],qBC (by rw[zFA];rfl),rfl,by simp[SV.den]⟩
  | _=>simp[binS] at hs
 | b e2 =>
  cases x with
  | b e1 =>
   obtain⟨n,h1⟩:=hx;obtain⟨m,h2⟩:=hy;simp only[binS] at hs;split at hs
   ·rename_i hu;cases hs;refine⟨?_,⟨(n==m),?_⟩,rfl,by simp[SV.den]⟩
    ·simp only[SV.den,zFA,zDA,Fn.eval,h1,h2,D.asBool];rw[(eqBool hu n m w).1];cases n <;> cases m <;> rfl
    ·simp only[zFA,zDA,Fn.eval,h1,h2,D.asBool];cases n <;> cases m <;> rfl
   ·rename_i hu;cases hs;refine⟨?_,⟨(n != m),?_⟩,rfl,by simp[SV.den]⟩
    ·simp only[SV.den,zFA,zDA,Fn.eval,h1,h2,D.asBool];rw[(eqBool hu n m w).2];cases n <;> cases m <;> rfl
    ·simp only[zFA,zDA,Fn.eval,h1,h2,D.asBool];cases n <;> cases m <;> rfl
   ·cases hs
  | _=>simp[binS] at hs
 | _=>cases x <;> simp[binS] at hs
end
end Go.Dx
namespace Go.Dx
open Go
section
variable {P:Program} {X:Nat->List D->D} {w0:Base} {J:List D} {st:St} {g:Gh} {w:World} {a:Act}
inductive BytesAt (w:World):Value->D->Prop where
 | nil:BytesAt w (.slice none 0 0) .nil
 | some {ad:Addr} {cap} {s:List UInt8} (hs:0<cap->ad.spot=none) (hc:xLA w ad.block ad.off (s.map fun x=>.int .u8 x.toNat)) (h1:s.length<=cap) (h2:cap<=maxLen):BytesAt w (.slice (some ad) s.length cap) (.bytes s)
theorem yWD{ad:Addr}(h:ad.spot=none)(j:Nat):ad.add j=⟨ad.block,ad.off+j,none⟩:=by
 obtain⟨b,o,s⟩:=ad;simp only at h;subst h;exact zTB b o j
theorem at_eq{ad:Addr}(h:ad.spot=none):ad=⟨ad.block,ad.off,none⟩:=by
 obtain⟨b,o,s⟩:=ad;simp only at h;subst h;rfl
theorem Rep.bytesAt{ok:Nat->Prop}{t e:TypeId}{v:Value}{d:D}(h:Rep P ok w t v d)(hu:P.underlying t=some (.slice e))(he:P.underlying e=some (.int .u8)):BytesAt w v d:=by
 cases h with
 | snil=>exact .nil
 | bytes hu' he' hok hcap hmax hc=>exact .some (fun h=>(hok h).1) hc hcap hmax
 | list hu' he'=>rw[hu] at hu';cases hu';exact absurd he he'
 | int hu'=>rw[hu] at hu';cases hu'
 | bool hu'=>rw[hu] at hu';cases hu'
 | str hu'=>rw[hu] at hu';cases hu'
 | flt hu'=>rw[hu] at hu';cases hu'
 | row hu' hd=>rw[hu] at hu';cases hu';simp[zHA] at hd
 | pnil hu'=>rw[hu] at hu';cases hu'
 | ptr hu'=>rw[hu] at hu';cases hu'
 | mnil hu'=>rw[hu] at hu';cases hu'
 | map hu'=>rw[hu] at hu';cases hu'
theorem ySA.bytesAt{ok:Nat->Prop}{t e:TypeId}{v:Value}{d:D}(h:ySA P ok w t v d)(hu:P.underlying t=some (.slice e))(he:P.underlying e=some (.int .u8)):BytesAt w v d:=by
 obtain⟨e',i,n,xs,hu',hi,hown,hd⟩:=h;rw[hu] at hu';cases hu'
 cases hd with
 | nil hv=>subst hv;exact .nil
 | bytes hv he' hs =>
  rename_i s;rcases hown.2 with⟨rfl,_⟩|⟨b,cap,cur,rfl,hb,hh,hn,hm,hsz,htake⟩
  ·simp[Value.ownBlock] at hv
  ·refine .some (fun _=>rfl) ?_ hn hm;intro j u hj
   have:=hown.cells (g:=b) rfl j u hj
   rwa [zTB] at this
 | list hv he'=>exact absurd he he'
theorem xLG(h:Mem P X w0 J st g w){t e:TypeId}{x:SV}{d:DE}(hx:x.ok X J)(hb:zQI P st t x=some d)(hu:P.underlying t=some (.slice e))(he:P.underlying e=some (.int .u8)) :
  BytesAt w (x.den X J g) (d.eval X J):=by
 unfold zQI at hb;split at hb
 ·rename_i d' hd;cases hb
  exact(xBA h hx hd).bytesAt hu he
 ·split at hb
  ·rename_i n;split at hb
   ·rename_i u de hn;split at hb
    ·rename_i hut;subst hut;cases hb
     exact ySA.bytesAt (h.va _ _ hn) hu he
    ·cases hb
   ·cases hb
  ·cases hb
theorem zTG:∀(s:List UInt8) (acc:ByteArray),(s.map fun x=>(x.toNat:Int)).foldl (fun r n=>r.push (UInt8.ofNat n.toNat)) acc=⟨acc.data++s.toArray⟩
 | [],acc=>by simp
 | x::s,acc=>by
  simp only[List.map_cons,List.foldl_cons];rw[zTG s];simp[ByteArray.push]
theorem yVL{v:Value}{d:D}(h:BytesAt w v d):(Conv.bytesToString v).run P w = .ok (.string ⟨d.asStr.toArray⟩) w:=by
 cases h with
 | nil=>rfl
 | some hs hc h1 h2 =>
  rename_i ad cap s;have hrun:(loadCells ad s.length).run P w = .ok ((s.map fun x=>(x.toNat:Int)).map (Value.int .u8)).toArray w:=by
   have:=run_loadCells_list (P:=P) w ad (s.map fun x=>Value.int .u8 x.toNat) (fun j v hj=>by
    have h0:=(List.getElem?_eq_some_iff.1 hj).1;rw[List.length_map] at h0;rw[yWD (hs (by omega))];exact hc j v hj)
   simpa[Function.comp_def] using this
  rw[run_bytesToString w _ _ _ _ hrun,zTG];simp[D.asStr]
theorem qHC(h:Mem P X w0 J st g w)(he:Env X J st g a){w':World}(hf:Fr (fun _=>False) w w'){n:Nat}{t:TypeId}{de:DE}{v:Value}{st':St}(hn:newV st ⟨.set t,de⟩ n=some st')
  (hv:∀ok':Nat->Prop,(∀b,okOf st g w b->ok' b)->(∀b,w.heap.size<=b->b<w'.heap.size->ok' b)->Rep P ok' w' t v (de.eval X J)) :
  Mem P X w0 J st' (g.setV n v (0,0)) w'/\Env X J st' (g.setV n v (0,0)) a/\Ext st g st' (g.setV n v (0,0))/\(SV.x n).den X J (g.setV n v (0,0))=v/\st'.obl=st.obl:=by
 unfold newV at hn;split at hn
 ·rename_i hc;cases hn;refine⟨h.change hf (fun b _ e=>e.elim) st rfl (fun l hl=>hl) (fun o cs ho=>⟨ho,fun e=>e⟩) (fun m vi hm=>.inr ⟨hm,fun b _ e=>e⟩) n ⟨.set t,de⟩ v (0,0) hc (by simp[zGA])
   (fun ok' h1 h2=>hv ok' h1 (fun b hb1 hb2=>h2 b hb1 hb2 (by simp[zGA]))),(he.setV hc v (0,0)).of_env rfl rfl,Ext.setV (qGA hc) v (0,0) (fun m vi hm=>xQB m vi hm) (fun o cs ho=>⟨cs,ho⟩),by simp[SV.den,Gh.setV],rfl⟩
 ·cases hn
structure Drops (st st1:St) (M:Nat->Prop) (g:Gh):Prop where
 env:st1.env=st.env
 lvl:st1.lvl=st.lvl
 nt:st1.nt=st.nt
 lps:st1.loops=st.loops
 objs:∀o cs,lk o st1.objs=some cs->lk o st.objs=some cs /\ ¬M (g.rb o)
 vars:∀n vi,lk n st1.vars=some vi->vi.vt = .dead∨(lk n st.vars=some vi /\ ∀b,zGA vi.vt (g.rv n)=some b -> ¬M b)
 keysV:∀n vi,lk n st.vars=some vi -> ∃vi',lk n st1.vars=some vi'
 keysO:∀o cs,lk o st.objs=some cs -> ∃cs',lk o st1.objs=some cs'
theorem Drops.same(st:St)(g:Gh):Drops st st (fun _=>False) g :=
 ⟨rfl,rfl,rfl,rfl,fun o cs h=>⟨h,fun e=>e⟩,fun n vi h=>.inr ⟨h,fun b _ e=>e⟩,fun n vi h=>⟨vi,h⟩,fun o cs h=>⟨cs,h⟩⟩
theorem Drops.kill(h:Mem P X w0 J st g w){n:Nat}{vi:VI}(hn:lk n st.vars=some vi)(de:DE)(obl:List Ob):Drops st { st with vars:=upd n ⟨.dead,de⟩ st.vars,obl:=obl } (fun b=>zGA vi.vt (g.rv n)=some b) g :=
 ⟨rfl,rfl,rfl,rfl,fun o cs ho=>⟨ho,fun e=>h.ov o n cs vi ho hn e⟩,fun m vj hm=>by
  by_cases hmn:n=m
  ·subst hmn;rw[zZA] at hm;cases hm;exact .inl rfl
  ·rw[yMA hmn] at hm;exact .inr ⟨hm,fun b hb hb'=>hmn (h.vv n m vi vj b hn hm hb' hb)⟩,fun m vj hm=>qHA m vj hm,fun o cs ho=>⟨cs,ho⟩⟩
theorem zIC(h:Mem P X w0 J st g w)(he:Env X J st g a){M:Nat->Prop}{w':World}(hf:Fr M w w')(hM:∀b,b<w.heap.size->M b->Actv st g b){st1 st':St}(hd:Drops st st1 M g)
  {n:Nat} {vi:VI} {v:Value} (hn:newV st1 vi n=some st')
  (hblk:∀b,zGA vi.vt v=some b->(w.heap.size<=b∨M b)/\b<w'.heap.size)
  (hv:∀ok':Nat->Prop,(∀b,okOf st g w b->ok' b)->(∀b,w.heap.size<=b->b<w'.heap.size->zGA vi.vt v≠some b->ok' b)->zEB P ok' w' vi.vt v (0,0) (vi.de.eval X J)) :
  Mem P X w0 J st' (g.setV n v (0,0)) w'/\Env X J st' (g.setV n v (0,0)) a/\Ext st g st' (g.setV n v (0,0))/\(SV.x n).den X J (g.setV n v (0,0))=v/\st'.obl=st1.obl:=by
 unfold newV at hn;split at hn
 ·rename_i hc;cases hn;have he1:Env X J st1 g a:=he.of_env hd.env hd.nt;have hnone:lk n st.vars=none:=by
   cases hx:lk n st.vars with
   | none=>rfl
   | some vi =>
    obtain⟨vi',h1⟩:=hd.keysV n vi hx;rw[qGA hc] at h1;cases h1
  refine⟨h.change hf hM st1 hd.lvl (fun l hl=>hd.lps▸hl) hd.objs hd.vars n vi v (0,0) hc (fun b hb=>?_) hv,(he1.setV hc v (0,0)).of_env rfl rfl,
   Ext.setV hnone v (0,0) (fun m vj hm=>?_) hd.keysO,by simp[SV.den,Gh.setV],rfl⟩
  ·obtain⟨h1,h2⟩:=hblk b hb;refine⟨h1,?_,h2⟩;rcases h1 with h1|h1
   ·exact .inl (Nat.le_trans h.fr.size h1)
   ·by_cases hlt:b<w.heap.size
    ·exact h.lo b (hM b hlt h1)
    ·exact .inl (Nat.le_trans h.fr.size (Nat.le_of_not_lt hlt))
  ·obtain⟨vj',h1⟩:=hd.keysV m vj hm;exact xQB m vj' h1
 ·cases hn
theorem yII(w:World)(b:Nat)(o n:Nat)(cs:Array Value)(t:TypeId)(fr:Nat×Nat)(hg:w.heap[b]? = some (.cells cs t fr)):∃fr',(w.freeze ⟨b,o,none⟩ n).heap[b]? = some (.cells cs t fr'):=by
 unfold World.freeze;split
 ·exact⟨fr,hg⟩
 ·have hlt:b<w.heap.size:=(Array.getElem?_eq_some_iff.1 hg).1;have hv:w.heap[b] = .cells cs t fr:=(Array.getElem?_eq_some_iff.1 hg).2;simp only;rw[Array.getElem?_eq_getElem (by simpa using hlt),Array.getElem_modify];simp[hv]
theorem yKH(w:World)(b k:Nat)(o n:Nat)(h:k≠b):(w.freeze ⟨b,o,none⟩ n).heap[k]? = w.heap[k]?:=by
 unfold World.freeze;split
 ·rfl
 ·simp[Array.getElem?_modify,Ne.symm h]
theorem yAF(w:World)(a:Addr)(n:Nat):(w.freeze a n).heap.size=w.heap.size:=by
 unfold World.freeze;split <;> simp
theorem xVI{e:TypeId}(s:ByteArray)(hm:s.size<=maxLen)(w:World):∃cap w',(Conv.stringToBytes e s).run P w = .ok (.slice (some ⟨w.heap.size,0,none⟩) s.size cap) w'/\Fr (fun _=>False) w w'/\w.heap.size<w'.heap.size/\s.size<=cap/\cap<=maxLen /\
  xLA w' w.heap.size 0 (s.data.toList.map fun x=>Value.int .u8 x.toNat):=by
 have hcap:=grownCap_ge w s.size 0 e;have hmax:=grownCap_le_maxLen w s.size 0 e hm;generalize hc:grownCap w s.size 0 e=cap at hcap hmax
 let cells:Array Value:=(s.data.map fun b=>Value.int .u8 b.toNat)++Array.replicate (cap-s.size) (.int .u8 0)
 let w1:=w.drew.alloc (.cells cells e)
 have hg:w1.heap[w.heap.size]? = some (.cells cells e (0,0)):=heap_alloc_new w.drew _;obtain⟨fr',hg'⟩:=yII w1 w.heap.size cells.size 1 cells e (0,0) hg;refine⟨cap,w1.freeze ⟨w.heap.size,cells.size,none⟩ 1,?_,⟨?_,?_,?_,?_,?_⟩,?_,hcap,hmax,?_⟩
 ·have hsh:w1.shape? w.heap.size=some (e,cells.size):=by simp[World.shape?,hg]
  simp only[Conv.stringToBytes,Sem.run_bind,run_choose,Question.forced,bfZ,if_false,Result.andThen_ok,World.drew_eq];have hcut:(Question.appendCap s.size 0 e).cut (w.tape w.drawn (Question.appendCap s.size 0 e))=cap:=hc;rw[hcut];simp only[qKB,Result.andThen_ok,markStringish,Sem.run_bind,run_shape];have hsh':(w.drew.alloc (.cells cells e)).shape? w.drew.heap.size=some (e,cells.size):=hsh;rw[hsh']
  simp
  rfl
 ·unfold World.freeze;split <;> rfl
 ·unfold World.freeze;split <;> rfl
 ·unfold World.freeze;split <;> rfl
 ·rw[yAF];simp[w1]
 ·intro k hk _;rw[yKH _ _ _ _ _ (by omega)];exact Go.RowKit.Below.heap_alloc w.drew _ k hk
 ·rw[yAF];simp[w1]
 ·intro j v hj;rw[Nat.zero_add,cell_of_row _ _ j _ _ _ hg'];have hj':j<s.data.size:=by
   have:=(List.getElem?_eq_some_iff.1 hj).1
   simpa using this
  simp only[cells];rw[Array.getElem?_append_left (by simpa using hj')];simpa using hj
end
end Go.Dx
namespace Go.Dx
open Go
theorem xVG{size:Nat}:∀ {vs:List Value},(∀v∈vs,v.cells.size=size) -> ∀(j:Nat) (v:Value) (k:Nat) (u:Value),vs[j]? = some v->v.cells.toList[k]? = some u->(vs.flatMap fun u=>u.cells.toList)[j*size+k]? = some u
 | [],_,j,v,k,u,hj,_=>by simp at hj
 | x::vs,hsz,j,v,k,u,hj,hk=>by
  have hx:x.cells.toList.length=size:=by rw[Array.length_toList];exact hsz x (by simp)
  cases j with
  | zero =>
   simp at hj;subst hj
   have hlt:=(List.getElem?_eq_some_iff.1 hk).1;simp only[List.flatMap_cons,Nat.zero_mul,Nat.zero_add];rw[List.getElem?_append_left hlt];exact hk
  | succ j =>
   simp at hj;have ih:=xVG (vs:=vs) (fun v hv=>hsz v (List.mem_cons_of_mem _ hv)) j v k u hj hk;simp only[List.flatMap_cons];rw[List.getElem?_append_right (by rw[hx,Nat.add_mul];omega),hx];rw[show (j+1)*size+k-size=j*size+k by rw[Nat.add_mul];omega];exact ih
theorem qSE{size:Nat}:∀ {vs:List Value},(∀v∈vs,v.cells.size=size)->(vs.flatMap fun u=>u.cells.toList).length=vs.length*size
 | [],_=>by simp
 | x::vs,hsz=>by
  have hx:x.cells.toList.length=size:=by rw[Array.length_toList];exact hsz x (by simp)
  simp only[List.flatMap_cons,List.length_append,List.length_cons];rw[qSE (vs:=vs) (fun v hv=>hsz v (List.mem_cons_of_mem _ hv)),hx,Nat.add_mul];omega
theorem zPJ{size:Nat}:∀ {vs:List Value},(∀v∈vs,v.cells.size=size) -> ∀(m:Nat) (u:Value),(vs.flatMap fun u=>u.cells.toList)[m]? = some u -> ∃j k v,m=j*size+k/\vs[j]? = some v/\v.cells.toList[k]? = some u
 | [],_,m,u,h=>by simp at h
 | x::vs,hsz,m,u,h=>by
  have hx:x.cells.toList.length=size:=by rw[Array.length_toList];exact hsz x (by simp)
  simp only[List.flatMap_cons] at h;by_cases hm:m<size
  ·rw[List.getElem?_append_left (by omega)] at h;exact⟨0,m,x,by simp,rfl,h⟩
  ·rw[List.getElem?_append_right (by omega),hx] at h;obtain⟨j,k,v,h1,h2,h3⟩:=zPJ (vs:=vs) (fun v hv=>hsz v (List.mem_cons_of_mem _ hv)) _ u h;exact⟨j+1,k,v,by rw[Nat.add_mul];omega,by simpa using h2,h3⟩
section
variable {P:Program} {X:Nat->List D->D} {w0:Base} {J:List D} {st:St} {g:Gh} {w:World} {a:Act}
theorem Rep.one{ok:Nat->Prop}{t:TypeId}{v:Value}{d:D}(h:Rep P ok w t v d)(h1:v.cells = #[v]):v.oneCell'=true:=by
 cases h with
 | row hu hd hlen hlen' hc hr =>
  rename_i vs ds;exfalso;simp only[Value.cells] at h1
  have:SizeOf.sizeOf (Value.agg vs.toArray)=SizeOf.sizeOf (Value.agg #[Value.agg vs.toArray]):=by rw[<- h1]
  simp at this;omega
 | _=>rfl
theorem Rep.cells_one{ok:Nat->Prop}{t:TypeId}{v:Value}{d:D}(h:Rep P ok w t v d):∀u∈v.cells.toList,u.oneCell'=true:=by
 obtain⟨td,hu⟩:=h.desc;cases hd:zHA td with
 | false =>
  obtain⟨h1,_,h3⟩:=h.notAgg hu hd;intro u hu;rw[h1] at hu;simp at hu;subst hu;exact h3
 | true =>
  intro u hu';cases h with
  | row hu2 hd2 hlen hlen' hc hr =>
   rename_i vs ds;simp only[Value.cells] at hu';obtain⟨j,hj⟩:=List.mem_iff_getElem?.1 hu';have hjl:=(List.getElem?_eq_some_iff.1 hj).1;have ht:(tys P t)[j]? = some (tys P t)[j]:=List.getElem?_eq_getElem (by omega);have hdd:ds[j]? = some ds[j]:=List.getElem?_eq_getElem (by omega);exact(hr j _ u _ ht hj hdd).one (hc u hu')
  | int h'=>rw[hu] at h';cases h';simp[zHA] at hd
  | bool h'=>rw[hu] at h';cases h';simp[zHA] at hd
  | str h'=>rw[hu] at h';cases h';simp[zHA] at hd
  | flt h'=>rw[hu] at h';cases h';simp[zHA] at hd
  | snil h'=>rw[hu] at h';cases h';simp[zHA] at hd
  | bytes h'=>rw[hu] at h';cases h';simp[zHA] at hd
  | list h'=>rw[hu] at h';cases h';simp[zHA] at hd
  | pnil h'=>rw[hu] at h';cases h';simp[zHA] at hd
  | ptr h'=>rw[hu] at h';cases h';simp[zHA] at hd
  | mnil h'=>rw[hu] at h';cases h';simp[zHA] at hd
  | map h'=>rw[hu] at h';cases h';simp[zHA] at hd
theorem ySA.toRep{ok ok':Nat->Prop}{t:TypeId}{v:Value}{d:D}(h:ySA P ok w t v d)(hok:∀b,ok b->ok' b)(hb:∀b,v.ownBlock=some b->ok' b):Rep P ok' w t v d:=by
 obtain⟨e,i,n,xs,hu,hi,hown,hd⟩:=h;cases hd with
 | nil hv=>subst hv;exact .snil hu
 | bytes hv he hs =>
  rename_i s;rcases hown.2 with⟨rfl,_⟩|⟨b,cap,cur,rfl,hb',hh,hn,hm,hsz,htake⟩
  ·simp[Value.ownBlock] at hv
  ·refine .bytes hu he (fun _=>⟨rfl,hb b rfl⟩) hn hm (fun j u hj=>?_)
   have:=hown.cells (g:=b) rfl j u hj
   rwa [zTB] at this
 | list hv he hlen hsz hr =>
  rename_i vs ds;rcases hown.2 with⟨rfl,_⟩|⟨b,cap,cur,rfl,hb',hh,hn,hm,hcs,htake⟩
  ·simp[Value.ownBlock] at hv
  ·refine .list hu he hi (fun _=>⟨rfl,hb b rfl⟩) hlen hn hm hsz (fun j u hj k x hx=>?_) (fun j u x h1 h2=>(hr j u x h1 h2).mono hok (fun _ _=>rfl))
   have:=hown.cells (g:=b) rfl (j*i.size+k) x (xVG hsz j u k x hj hx)
   rw[zTB] at this
   rwa [Nat.zero_add] at this ⊢
theorem TagsAt.toRep{ok ok':Nat->Prop}{t:TypeId}{v:Value}{d:D}(h:TagsAt P ok w t v d)(hok:∀b,ok b->ok' b)(hb:∀b,zGA (.tags t) v=some b->ok' b):Rep P ok' w t v d:=by
 cases h with
 | nil hu=>exact .mnil hu
 | map hu hk hh hkeys hkw hs hborn hclock hr=>exact .map hu hk (hb _ rfl) hh hkeys hkw hs hborn hclock (fun x hx n d h1 h2=>(hr x hx n d h1 h2).mono hok (fun _ _=>rfl))
theorem Mem.settle1(h:Mem P X w0 J st g w)(n:Nat):Mem P X w0 J (settle1 st n) g w/\(∀b,okOf st g w b->okOf (settle1 st n) g w b):=by
 have key:∀(vi:VI) (t:TypeId),lk n st.vars=some vi->(∀ok':Nat->Prop,(∀b,okOf st g w b->ok' b)->(∀b,zGA vi.vt (g.rv n)=some b->ok' b)->Rep P ok' w t (g.rv n) (vi.de.eval X J)) ->
   Mem P X w0 J { st with vars:=upd n ⟨.set t,vi.de⟩ st.vars } g w/\(∀b,okOf st g w b->okOf { st with vars:=upd n ⟨.set t,vi.de⟩ st.vars } g w b):=by
  intro vi t hn hrep;have hact:∀b,Actv { st with vars:=upd n ⟨.set t,vi.de⟩ st.vars } g b->Actv st g b/\zGA vi.vt (g.rv n)≠some b:=by
   rintro b (⟨o,cs,h1,h2⟩|⟨m,vj,h1,h2⟩)
   ·exact⟨.inl ⟨o,cs,h1,h2⟩,fun e=>h.ov o n cs vi h1 hn (h2▸e)⟩
   ·by_cases hmn:n=m
    ·subst hmn;rw[zZA] at h1;cases h1;simp[zGA] at h2
    ·rw[yMA hmn] at h1;exact⟨.inr ⟨m,vj,h1,h2⟩,fun e=>hmn (h.vv n m vi vj b hn h1 e h2)⟩
  have hok:∀b,okOf st g w b->okOf { st with vars:=upd n ⟨.set t,vi.de⟩ st.vars } g w b:=fun b hb=>⟨hb.1,fun e=>hb.2.1 (hact b e).1,hb.2.2⟩
  have hold:∀m vj,n≠m->lk m (upd n ⟨.set t,vi.de⟩ st.vars)=some vj->lk m st.vars=some vj:=fun m vj hne hm=>by rwa [yMA hne] at hm
  refine⟨⟨?_,h.ob,h.oo,?_,?_,fun b hb=>h.lo b (hact b hb).1,h.lp,h.fr,h.lv,h.ex,h.gl⟩,hok⟩
  ·intro m vj hm;by_cases hmn:n=m
   ·subst hmn;rw[zZA] at hm;cases hm
    exact hrep _ hok (fun b hb=>⟨(h.va n vi hn).lt b hb,fun e=>(hact b e).2 hb,h.notEx (.inr ⟨n,vi,hn,hb⟩)⟩)
   ·exact(h.va m vj (hold m vj hmn hm)).mono hok (fun _ _=>rfl) (fun _ _=>rfl)
  ·intro m k vj vk b h1 h2 h3 h4;by_cases hm:n=m
   ·subst hm;rw[zZA] at h1;cases h1;simp[zGA] at h3
   ·by_cases hk:n=k
    ·subst hk;rw[zZA] at h2;cases h2;simp[zGA] at h4
    ·exact h.vv m k vj vk b (hold m vj hm h1) (hold k vk hk h2) h3 h4
  ·intro o m c vj h1 h2;by_cases hm:n=m
   ·subst hm;rw[zZA] at h2;cases h2;simp[zGA]
   ·exact h.ov o m c vj h1 (hold m vj hm h2)
 unfold Dx.settle1;split
 ·rename_i t de hn;exact key ⟨.own t,de⟩ t hn (fun ok' h1 h2=>ySA.toRep (h.va n _ hn) h1 h2)
 ·rename_i t de hn;exact key ⟨.tags t,de⟩ t hn (fun ok' h1 h2=>TagsAt.toRep (h.va n _ hn) h1 h2)
 ·exact⟨h,fun b hb=>hb⟩
theorem qAE(st:St)(n:Nat):(settle1 st n).env=st.env/\(settle1 st n).objs=st.objs/\(settle1 st n).obl=st.obl/\(settle1 st n).lvl=st.lvl/\(settle1 st n).nt=st.nt/\(settle1 st n).loops=st.loops /\ ∀m vi,lk m st.vars=some vi -> ∃vi',lk m (settle1 st n).vars=some vi':=by
 unfold settle1;split
 ·exact⟨rfl,rfl,rfl,rfl,rfl,rfl,fun m vi h=>qHA m vi h⟩
 ·exact⟨rfl,rfl,rfl,rfl,rfl,rfl,fun m vi h=>qHA m vi h⟩
 ·exact⟨rfl,rfl,rfl,rfl,rfl,rfl,fun m vi h=>⟨vi,h⟩⟩
mutual
theorem zBB:∀(st:St) (s:SV),(settle st s).env=st.env/\(settle st s).objs=st.objs/\(settle st s).obl=st.obl/\(settle st s).lvl=st.lvl/\(settle st s).nt=st.nt/\(settle st s).loops=st.loops /\ ∀m vi,lk m st.vars=some vi -> ∃vi',lk m (settle st s).vars=some vi'
 | st,.x n=>qAE st n
 | st,.agg l=>xUA st l
 | st,.i ..=>⟨rfl,rfl,rfl,rfl,rfl,rfl,fun m vi h=>⟨vi,h⟩⟩
 | st,.b ..=>⟨rfl,rfl,rfl,rfl,rfl,rfl,fun m vi h=>⟨vi,h⟩⟩
 | st,.s ..=>⟨rfl,rfl,rfl,rfl,rfl,rfl,fun m vi h=>⟨vi,h⟩⟩
 | st,.fl ..=>⟨rfl,rfl,rfl,rfl,rfl,rfl,fun m vi h=>⟨vi,h⟩⟩
 | st,.c ..=>⟨rfl,rfl,rfl,rfl,rfl,rfl,fun m vi h=>⟨vi,h⟩⟩
 | st,.xc ..=>⟨rfl,rfl,rfl,rfl,rfl,rfl,fun m vi h=>⟨vi,h⟩⟩
 | st,.oa ..=>⟨rfl,rfl,rfl,rfl,rfl,rfl,fun m vi h=>⟨vi,h⟩⟩
 | st,.osl ..=>⟨rfl,rfl,rfl,rfl,rfl,rfl,fun m vi h=>⟨vi,h⟩⟩
 | st,.ea ..=>⟨rfl,rfl,rfl,rfl,rfl,rfl,fun m vi h=>⟨vi,h⟩⟩
 | st,.ra ..=>⟨rfl,rfl,rfl,rfl,rfl,rfl,fun m vi h=>⟨vi,h⟩⟩
 | st,.tup ..=>⟨rfl,rfl,rfl,rfl,rfl,rfl,fun m vi h=>⟨vi,h⟩⟩
 | st,.w ..=>⟨rfl,rfl,rfl,rfl,rfl,rfl,fun m vi h=>⟨vi,h⟩⟩
theorem xUA:∀(st:St) (l:List SV),(settles st l).env=st.env/\(settles st l).objs=st.objs/\(settles st l).obl=st.obl/\(settles st l).lvl=st.lvl/\(settles st l).nt=st.nt/\(settles st l).loops=st.loops /\ ∀m vi,lk m st.vars=some vi -> ∃vi',lk m (settles st l).vars=some vi'
 | st,[]=>⟨rfl,rfl,rfl,rfl,rfl,rfl,fun m vi h=>⟨vi,h⟩⟩
 | st,a::as=>by
  obtain⟨h1,h2,h3,h4,h5,h6,h7⟩:=zBB st a;obtain⟨k1,k2,k3,k4,k5,k6,k7⟩:=xUA (settle st a) as;refine⟨k1.trans h1,k2.trans h2,k3.trans h3,k4.trans h4,k5.trans h5,k6.trans h6,fun m vi hm=>?_⟩;obtain⟨vi',hm'⟩:=h7 m vi hm;exact k7 m vi' hm'
end
mutual
theorem Mem.settle{P:Program}{X:Nat->List D->D}{w0:Base}{J:List D}{g:Gh}{w:World}:∀ {st:St} (s:SV),Mem P X w0 J st g w->Mem P X w0 J (settle st s) g w/\(∀b,okOf st g w b->okOf (Dx.settle st s) g w b)
 | st,.x n,h=>h.settle1 n
 | st,.agg l,h=>Mem.settles l h
 | st,.i ..,h=>⟨h,fun _ hb=>hb⟩
 | st,.b ..,h=>⟨h,fun _ hb=>hb⟩
 | st,.s ..,h=>⟨h,fun _ hb=>hb⟩
 | st,.fl ..,h=>⟨h,fun _ hb=>hb⟩
 | st,.c ..,h=>⟨h,fun _ hb=>hb⟩
 | st,.xc ..,h=>⟨h,fun _ hb=>hb⟩
 | st,.oa ..,h=>⟨h,fun _ hb=>hb⟩
 | st,.osl ..,h=>⟨h,fun _ hb=>hb⟩
 | st,.ea ..,h=>⟨h,fun _ hb=>hb⟩
 | st,.ra ..,h=>⟨h,fun _ hb=>hb⟩
 | st,.tup ..,h=>⟨h,fun _ hb=>hb⟩
 | st,.w ..,h=>⟨h,fun _ hb=>hb⟩
theorem Mem.settles{P:Program}{X:Nat->List D->D}{w0:Base}{J:List D}{g:Gh}{w:World}:∀ {st:St} (l:List SV),Mem P X w0 J st g w->Mem P X w0 J (settles st l) g w/\(∀b,okOf st g w b->okOf (Dx.settles st l) g w b)
 | st,[],h=>⟨h,fun _ hb=>hb⟩
 | st,a::as,h=>by
  obtain⟨h1,h2⟩:=Mem.settle a h;obtain⟨k1,k2⟩:=Mem.settles as h1;exact⟨k1,fun b hb=>k2 b (h2 b hb)⟩
end
end
end Go.Dx
namespace Go.Dx
open Go
section
variable {P:Program} {X:Nat->List D->D} {Pre:Nat->List D->Prop} {w0:Base} {J:List D} {st:St} {g:Gh} {w:World} {a:Act}
theorem ySA.nilv{ok:Nat->Prop}{t e:TypeId}{i:TypeInfo}(hu:P.underlying t=some (.slice e))(hi:P.info? e=some i):ySA P ok w t (.slice none 0 0) .nil :=
 ⟨e,i,0,[],hu,hi,World.ownsRow_nil _ _ _ _,.nil rfl⟩
theorem Rep.source{ok:Nat->Prop}{t e:TypeId}{i:TypeInfo}{v:Value}{d:D}(h:Rep P ok w t v d)(hu:P.underlying t=some (.slice e))(hi:P.info? e=some i)(hu8:P.underlying e=some (.int .u8)->i.size=1) :
  (v = .slice none 0 0/\d = .nil) ∨ ∃(ad:Addr) (m c:Nat) (news:List Value),v = .slice (some ad) m c/\news.length=m*i.size/\m=d.len/\(∀j u,news[j]? = some u->w.cell? (ad.add j)=some u)/\(∀u∈news,u.oneCell'=true) /\
   ((P.underlying e=some (.int .u8) /\ ∃s:List UInt8,d = .bytes s/\news=s.map fun x=>.int .u8 x.toNat)∨(P.underlying e≠some (.int .u8) /\ ∃(vs:List Value) (ds:List D),d = .list ds/\vs.length=ds.length/\news=(vs.flatMap fun u=>u.cells.toList)/\(∀u∈vs,u.cells.size=i.size) /\
    ∀(j:Nat) (u:Value) (x:D),vs[j]? = some u->ds[j]? = some x->Rep P ok w e u x)):=by
 cases h with
 | snil=>exact .inl ⟨rfl,rfl⟩
 | bytes hu' he hok hcap hmax hc =>
  rw[hu] at hu';cases hu'
  rename_i cap ad s;refine .inr ⟨ad,s.length,cap,_,rfl,by rw[List.length_map,hu8 he,Nat.mul_one],rfl,fun j u hj=>by
   have h0:=(List.getElem?_eq_some_iff.1 hj).1;rw[List.length_map] at h0;rw[yWD (hok (by omega)).1];exact hc j u hj,?_,.inl ⟨he,s,rfl,rfl⟩⟩
  intro u hu;obtain⟨x,_,rfl⟩:=List.mem_map.1 hu;rfl
 | list hu' he hi' hok hlen hcap hmax hsz hc hr =>
  rw[hu] at hu';cases hu'
  rw[hi] at hi';cases hi'
  rename_i cap ad vs ds;refine .inr ⟨ad,ds.length,cap,_,rfl,by rw[qSE hsz,hlen],rfl,fun j u hj=>?_,?_,.inr ⟨he,vs,ds,rfl,hlen,rfl,hsz,hr⟩⟩
  ·obtain⟨r,k,v,rfl,h2,h3⟩:=zPJ hsz j u hj;have h0:=(List.getElem?_eq_some_iff.1 h2).1;rw[yWD (hok (by omega)).1,<- Nat.add_assoc];exact hc r v h2 k u h3
  ·intro u hu;obtain⟨v,hv,hu'⟩:=List.mem_flatMap.1 hu;obtain⟨r,hr1⟩:=List.mem_iff_getElem?.1 hv;have hlt:=(List.getElem?_eq_some_iff.1 hr1).1;have hd:ds[r]? = some ds[r]:=List.getElem?_eq_getElem (by omega);exact(hr r v _ hr1 hd).cells_one u hu'
 | int hu'=>rw[hu] at hu';cases hu'
 | bool hu'=>rw[hu] at hu';cases hu'
 | str hu'=>rw[hu] at hu';cases hu'
 | flt hu'=>rw[hu] at hu';cases hu'
 | row hu' hd=>rw[hu] at hu';cases hu';simp[zHA] at hd
 | pnil hu'=>rw[hu] at hu';cases hu'
 | ptr hu'=>rw[hu] at hu';cases hu'
 | mnil hu'=>rw[hu] at hu';cases hu'
 | map hu'=>rw[hu] at hu';cases hu'
theorem zQE{e:TypeId}{size:Nat}{v:Value}{n:Nat}{xs:List Value}(h:w.ownsRow 0 e size v n xs)(hv:¬(v = .slice none 0 0)):v.ownBlock≠none:=by
 rcases h.2 with⟨h1,_⟩|⟨b,cap,cur,rfl,_⟩
 ·exact absurd h1 hv
 ·simp[Value.ownBlock]
theorem zPH{t ty e:TypeId}{i:TypeInfo}{z:Value}(hu:P.underlying t=some (.slice e))(hi:P.info? e=some i)(hz:i.zero=some z){v:Value}{n:Nat}{xs:List Value}(hown:w.ownsRow 0 e i.size v n xs)
  (ad:Addr) (m c:Nat) (news:List Value) (hl:news.length=m*i.size) (hnews:∀j u,news[j]? = some u->w.cell? (ad.add j)=some u) (h1:∀u∈news,u.oneCell'=true)
  (h63:n+m<=maxLen) (hbytes:(n+m)*i.bytes<=140737488355328) {v':Value} {w':World} (hrun:(Builtin.append_ #[t,t] ty #[v,.slice (some ad) m c]).run P w = .ok v' w') :
  ∀k,v'.ownBlock=some k->w.heap.size<=k∨v.ownBlock=some k:=by
 intro k hk;have hsmall:n+m<=9223372036854775807:=by simp only[maxLen] at h63;omega
 rcases hown.2 with⟨rfl,rfl⟩|⟨g,cap,cur,rfl,hbg,hg,hnc,hcm,hcs,htake⟩
 ·by_cases hm:m=0
  ·subst hm;have hn:news=[]:=List.eq_nil_of_length_eq_zero (by simpa using hl);subst hn;have hr:(Builtin.append_ #[t,t] ty #[.slice none 0 0,.slice (some ad) 0 c]).run P w = .ok (.slice none 0 0) w:=by
    simp[Builtin.append_,run_underlying hu,sizeOf,typeInfo,hi,Builtin.lenOf,Builtin.firstCells,loadCells,loadCellsFrom]
   rw[hr] at hrun;cases hrun
   simp[Value.ownBlock] at hk
  ·have hr:=run_append_nil (P:=P) w t ty e i z hu hi hz ad m c news hl hnews (by omega) (by omega) (by have hb:=hbytes;simp only[Nat.zero_add] at hb;omega);rw[hr] at hrun;cases hrun
   simp[Value.ownBlock] at hk;left;omega
 ·by_cases hroom:n+m<=cap
  ·have hfit:n*i.size+news.length<=cur.size:=by rw[hl,hcs,<- Nat.add_mul];exact Nat.mul_le_mul_right _ hroom
   have hr:=run_append_room (P:=P) w t ty e i hu hi g n cap cur hg ad m c news hl hnews h1 hroom hfit;rw[hr] at hrun;cases hrun
   exact .inr hk
  ·have holds:∀j u,xs[j]? = some u->w.cell? ((⟨g,0,none⟩:Addr).add j)=some u:=hown.cells (g:=g) rfl;have hr:=run_append_grow (P:=P) w t ty e i z hu hi hz ⟨g,0,none⟩ n cap xs hown.1 holds ad m c news hl hnews (by omega) (by omega) (growslice_fits (by omega) hbytes);rw[hr] at hrun;cases hrun
   simp[Value.ownBlock] at hk;left;omega
theorem zWK{ok:Nat->Prop}{t ty e:TypeId}{i:TypeInfo}{z:Value}(hu:P.underlying t=some (.slice e))(hi:P.info? e=some i)(hz:i.zero=some z)(hzs:z.cells.size=i.size)(hsz:0<i.size)
  (hu8:P.underlying e=some (.int .u8)->i.size=1) {v vx:Value} {d dx:D} (hown:ySA P ok w t v d) (hx:Rep P ok w t vx dx)
  (hroom:(d.appd dx).len*i.bytes<=LIM) (hmax:(d.appd dx).len<=maxLen) :
  ∃v' w',(Builtin.append_ #[t,t] ty #[v,vx]).run P w = .ok v' w'/\w.grownBy w' v.ownBlock/\(∀b,v'.ownBlock=some b->(w.heap.size<=b∨v.ownBlock=some b)/\b<w'.heap.size) /\
   ∀ok':Nat->Prop,(∀b,ok b->ok' b/\w'.heap[b]? = w.heap[b]?)->ySA P ok' w' t v' (d.appd dx):=by
 obtain⟨e',i',n,xs,hu',hi',hrow,hd⟩:=hown;rw[hu] at hu';cases hu'
 rw[hi] at hi';cases hi'
 rcases hx.source hu hi hu8 with⟨rfl,rfl⟩|⟨ad,m,c,news,rfl,hl,hm,hnews,h1,hdat⟩
 ·refine⟨v,w,run_append_owned_none (P:=P) (w:=w) 0 t ty e i i.size hu hi v n xs hrow,⟨rfl,rfl,rfl,Nat.le_refl _,fun _ _ _=>rfl⟩,fun b hb=>⟨.inr hb,(hrow.lt b hb).2⟩,fun ok' hok'=>?_⟩;have he:d.appd .nil=d:=by cases d <;> rfl
  rw[he];exact⟨e,i,n,xs,hu,hi,hrow,hd.mono (fun b hb=>(hok' b hb).1) (fun _ _=>rfl)⟩
 ·have hlenD:(d.appd dx).len=n+m:=by
   rcases hdat with⟨he8,s,rfl,_⟩|⟨hne,vs,ds,rfl,_⟩
   ·cases hd with
    | nil=>simp only[D.len] at hm;cases s <;> simp[D.appd,D.len,hm]
    | bytes=>simp[D.appd,D.len,hm]
    | list hv he=>exact absurd he8 he
   ·cases hd with
    | nil=>simp only[D.len] at hm;cases ds <;> simp[D.appd,D.len,hm]
    | bytes hv he=>exact absurd he hne
    | list=>simp[D.appd,D.len,hm]
  have h63:n+m<=maxLen:=by rw[<- hlenD];exact hmax
  have hby:(n+m)*i.bytes<=140737488355328:=by rw[<- hlenD];exact hroom
  obtain⟨v',w',hrun,hrow',hg,hnil⟩:=run_append_own (P:=P) w 0 t ty e i z i.size i.bytes hu hi hz rfl rfl hzs hsz v n xs hrow ad m c news hl hnews h1 h63 hby (Nat.zero_le _);refine⟨v',w',hrun,hg,fun k hk=>⟨zPH hu hi hz hrow _ m c news hl hnews h1 h63 hby hrun k hk,(hrow'.lt k hk).2⟩,fun ok' hok'=>⟨e,i,n+m,xs++news,hu,hi,hrow',?_⟩⟩;by_cases hvn:v' = .slice none 0 0
  ·obtain⟨hv0,hm0⟩:=hnil.1 hvn;have hn0:n=0:=by
    rcases hrow.2 with⟨_,h⟩|⟨_,_,_,h,_⟩
    ·exact h
    ·rw[hv0] at h;cases h
   have hdn:d.appd dx = .nil:=by
    have hd0:d = .nil:=by
     cases hd with
     | nil=>rfl
     | bytes hv=>rw[hv0] at hv;simp[Value.ownBlock] at hv
     | list hv=>rw[hv0] at hv;simp[Value.ownBlock] at hv
    subst hd0;rcases hdat with⟨_,s,rfl,_⟩|⟨hne,vs,ds,rfl,_⟩
    ·simp only[D.len] at hm;have:s=[]:=List.eq_nil_of_length_eq_zero (by omega);subst this;rfl
    ·simp only[D.len] at hm;have:ds=[]:=List.eq_nil_of_length_eq_zero (by omega);subst this;rfl
   have hxs:xs=[]:=List.eq_nil_of_length_eq_zero (by rw[hrow.1,hn0];simp);have hne:news=[]:=List.eq_nil_of_length_eq_zero (by rw[hl,hm0];simp);subst hxs;subst hne;subst hn0;subst hm0
   rw[hdn];exact .nil hvn
  ·have hob:=zQE hrow' hvn;rcases hdat with⟨he,s,rfl,rfl⟩|⟨hne,vs,ds,rfl,hlen,rfl,hvs,hr⟩
   ·simp only[D.len] at hm;subst hm
    cases hd with
    | nil hv =>
     have hs:s≠[]:=fun h=>hvn (hnil.2 ⟨hv,by rw[h];rfl⟩)
     have e1:D.appd .nil (.bytes s) = .bytes s:=by cases s <;> simp_all [D.appd]
     rw[e1];simp only[Nat.zero_add,List.nil_append];exact .bytes hob he (hu8 he)
    | bytes hv he' hs =>
     rename_i s0
     have:=OwnD.bytes (P:=P) (ok:=ok') (w:=w') (e:=e) (size:=i.size) (s:=s0++s) hob he hs
     simpa[D.appd] using this
    | list hv he'=>exact absurd he he'
   ·simp only[D.len] at hm;subst hm
    have hrr:∀(j:Nat) (u:Value) (x:D),vs[j]? = some u->ds[j]? = some x->Rep P ok' w' e u x:=fun j u x h1 h2=>(hr j u x h1 h2).mono (fun b hb=>(hok' b hb).1) (fun b hb=>(hok' b hb).2)
    cases hd with
    | nil hv =>
     have hs:ds≠[]:=fun h=>hvn (hnil.2 ⟨hv,by rw[h];rfl⟩)
     have e1:D.appd .nil (.list ds) = .list ds:=by cases ds <;> simp_all [D.appd]
     rw[e1];simp only[Nat.zero_add,List.nil_append];exact .list hob hne hlen hvs hrr
    | bytes hv he' hs=>exact absurd he' hne
    | list hv he' hlen0 hvs0 hr0 =>
     rename_i vs0 ds0
     have:=OwnD.list (P:=P) (ok:=ok') (w:=w') (e:=e) (size:=i.size) (v:=v') (vs:=vs0++vs) (ds:=ds0++ds) hob hne (by simp[hlen0,hlen]) (fun u hu=>by
      rcases List.mem_append.1 hu with hu|hu
      ·exact hvs0 u hu
      ·exact hvs u hu) (fun j u x h1 h2=>by
      by_cases hj:j<vs0.length
      ·rw[List.getElem?_append_left hj] at h1;rw[List.getElem?_append_left (by omega)] at h2;exact(hr0 j u x h1 h2).mono (fun b hb=>(hok' b hb).1) (fun b hb=>(hok' b hb).2)
      ·rw[List.getElem?_append_right (by omega)] at h1;rw[List.getElem?_append_right (by omega)] at h2;exact hrr (j-vs0.length) u x h1 (by rw[hlen0];exact h2))
     simpa[D.appd] using this
end
end Go.Dx
namespace Go.Dx
open Go
section
variable {P:Program} {X:Nat->List D->D} {Pre:Nat->List D->Prop} {w0:Base} {J:List D} {st:St} {g:Gh} {w:World} {a:Act}
theorem xKD{t u ty e:TypeId}{i:TypeInfo}(ht:P.underlying t=some (.slice e))(hu:P.underlying u=some .string)(hi:P.info? e=some i)(hz:i.zero=some (.int .u8 0))(hsize:i.size=1)(hby:i.bytes=1)
  {v:Value} {n:Nat} {xs:List Value} (hown:w.ownsRow 0 e 1 v n xs) (s:ByteArray) (h63:n+s.size<=maxLen) (hbytes:n+s.size<=140737488355328) {v':Value} {w':World} (hrun:(Builtin.append_ #[t,u] ty #[v,.string s]).run P w = .ok v' w') :
  ∀k,v'.ownBlock=some k->w.heap.size<=k∨v.ownBlock=some k:=by
 intro k hk;have hsmall:n+s.size<=9223372036854775807:=by simp only[maxLen] at h63;omega
 have hxl:xs.length=n:=by simpa using hown.1
 rcases hown.2 with⟨rfl,rfl⟩|⟨g,cap,cur,rfl,hbg,hg,hnc,hcm,hcs,htake⟩
 ·by_cases hm:s.size=0
  ·have hn:Lib.strCells s=[]:=List.eq_nil_of_length_eq_zero (by rw[Lib.strCells_length];exact hm);have hf:=Lib.run_firstCells_string (P:=P) w 1 s;rw[hm] at hf;have hr:(Builtin.append_ #[t,u] ty #[.slice none 0 0,.string s]).run P w = .ok (.slice none 0 0) w:=by
    simp[Builtin.append_,run_underlying ht,run_underlying hu,sizeOf,typeInfo,hi,hsize,Builtin.lenOf,hm,hf]
   rw[hr] at hrun;cases hrun
   simp[Value.ownBlock] at hk
  ·have hr:=run_append_nil_string (P:=P) w t u ty e i (.int .u8 0) ht hu hi hz s (by omega) (by omega) (by rw[hby];omega);rw[hr] at hrun;cases hrun
   simp[Value.ownBlock] at hk;left;omega
 ·by_cases hroom:n+s.size<=cap
  ·have hcs':cur.size=cap:=by simpa using hcs
   have hr:=Lib.run_append_room_string (P:=P) w t u ty e i ht hu hi hsize g n cap cur hg s hroom (by omega);rw[hr] at hrun;cases hrun
   exact .inr hk
  ·have holds:∀j u,xs[j]? = some u->w.cell? ((⟨g,0,none⟩:Addr).add j)=some u:=hown.cells (g:=g) rfl;have hr:=Lib.run_append_grow_string (P:=P) w t u ty e i (.int .u8 0) ht hu hi hz ⟨g,0,none⟩ n cap xs (by rw[hsize];simpa using hxl) holds s (by omega) (by omega) (by rw[hby];exact growslice_fits (by omega) (by omega));rw[hr] at hrun;cases hrun
   simp[Value.ownBlock] at hk;left;omega
theorem zBH(s:List UInt8):Lib.strCells ⟨s.toArray⟩=s.map fun x=>Value.int .u8 x.toNat:=by simp[Lib.strCells]
theorem xRF{ok:Nat->Prop}{t u ty e:TypeId}{i:TypeInfo}(ht:P.underlying t=some (.slice e))(hu:P.underlying u=some .string)(hi:P.info? e=some i)(hz:i.zero=some (.int .u8 0))(hsize:i.size=1)(hby:i.bytes=1)
  (he:P.underlying e=some (.int .u8)) {v:Value} {d:D} (hown:ySA P ok w t v d) (s:List UInt8)
  (hroom:(d.appd (.str s)).len<=LIM) (hmax:(d.appd (.str s)).len<=maxLen) :
  ∃v' w',(Builtin.append_ #[t,u] ty #[v,.string ⟨s.toArray⟩]).run P w = .ok v' w'/\w.grownBy w' v.ownBlock/\(∀b,v'.ownBlock=some b->(w.heap.size<=b∨v.ownBlock=some b)/\b<w'.heap.size) /\
   ∀ok':Nat->Prop,(∀b,ok b->ok' b/\w'.heap[b]? = w.heap[b]?)->ySA P ok' w' t v' (d.appd (.str s)):=by
 obtain⟨e',i',n,xs,hu',hi',hrow,hd⟩:=hown;rw[ht] at hu';cases hu'
 rw[hi] at hi';cases hi'
 have hss:(⟨s.toArray⟩:ByteArray).size=s.length:=by show s.toArray.size=_;simp
 have hlenD:(d.appd (.str s)).len=n+s.length:=by
  cases hd with
  | nil=>cases s <;> simp[D.appd,D.len]
  | bytes=>simp[D.appd,D.len]
  | list hv hne=>exact absurd he hne
 rw[hlenD] at hroom hmax;rw[hsize] at hrow hd;obtain⟨v',w',hrun,hrow',hg,hnil⟩:=Lib.run_append_own_string (P:=P) w 0 t u ty e i ht hu hi hz hsize hby v n xs hrow ⟨s.toArray⟩ (by rw[hss];exact hmax) (by rw[hss];exact hroom) (Nat.zero_le _);refine⟨v',w',hrun,hg,fun k hk=>⟨xKD ht hu hi hz hsize hby hrow _ (by rw[hss];exact hmax) (by rw[hss];exact hroom) hrun k hk,(hrow'.lt k hk).2⟩,fun ok' hok'=>⟨e,i,n+s.length,xs++Lib.strCells ⟨s.toArray⟩,ht,hi,by rw[hsize,<- hss];exact hrow',?_⟩⟩;rw[hsize,zBH];rw[hss] at hrow' hnil;by_cases hvn:v' = .slice none 0 0
 ·obtain⟨hv0,hm0⟩:=hnil.1 hvn;have hs:s=[]:=List.eq_nil_of_length_eq_zero hm0;subst hs;cases hd with
  | nil=>exact .nil hvn
  | bytes hv=>rw[hv0] at hv;simp[Value.ownBlock] at hv
  | list hv=>rw[hv0] at hv;simp[Value.ownBlock] at hv
 ·have hob:=zQE hrow' hvn;cases hd with
  | nil hv =>
   have hs:s≠[]:=fun h=>hvn (hnil.2 ⟨hv,by rw[h];rfl⟩)
   have e1:D.appd .nil (.str s) = .bytes s:=by cases s <;> simp_all [D.appd]
   rw[e1];simp only[Nat.zero_add,List.nil_append];exact .bytes hob he rfl
  | bytes hv he' hs =>
   rename_i s0
   have:=OwnD.bytes (P:=P) (ok:=ok') (w:=w') (e:=e) (size:=1) (s:=s0++s) hob he rfl
   simpa[D.appd] using this
  | list hv he'=>exact absurd he he'
theorem zAD{e:TypeId}{i:TypeInfo}(h:xCD P e i=true):∃z,i.zero=some z/\z.cells.size=i.size/\0<i.size/\(P.underlying e=some (.int .u8)->i.size=1):=by
 unfold xCD at h;split at h
 ·rename_i z hz;simp only[baZ,beq_iff_eq,dtZ,Bool.or_eq_true,Bool.not_eq_true'] at h;refine⟨z,hz,h.1.1,h.1.2,fun hu=>?_⟩;rcases h.2 with h2|h2
  ·simp[isU8,hu] at h2
  ·exact h2
 ·cases h
theorem xVC(h:Mem P X w0 J st g w){t e:TypeId}{i:TypeInfo}(hu:P.underlying t=some (.slice e))(hi:P.info? e=some i){s:SV}{d:DE}{st1:St}(ht:qND st t s=some (d,st1)) :
  Drops st st1 (fun b=>(s.den X J g).ownBlock=some b) g/\ySA P (okOf st g w) w t (s.den X J g) (d.eval X J)/\(∀b,(s.den X J g).ownBlock=some b->Actv st g b)/\st1.obl=st.obl:=by
 unfold qND at ht;split at ht
 ·cases ht;refine⟨?_,ySA.nilv hu hi,fun b hb=>?_,rfl⟩
  ·refine⟨rfl,rfl,rfl,rfl,fun o cs h=>⟨h,fun e=>?_⟩,fun n vi h=>.inr ⟨h,fun b _ e=>?_⟩,fun n vi h=>⟨vi,h⟩,fun o cs h=>⟨cs,h⟩⟩
   ·simp[SV.den,CV.den,Value.ownBlock] at e
   ·simp[SV.den,CV.den,Value.ownBlock] at e
  ·simp[SV.den,CV.den,Value.ownBlock] at hb
 ·rename_i m;split at ht
  ·rename_i v de hm;split at ht
   ·rename_i hvt;subst hvt;cases ht;exact⟨Drops.kill h hm d st.obl,h.va m _ hm,fun b hb=>.inr ⟨m,_,hm,hb⟩,rfl⟩
   ·cases ht
  ·cases ht
 ·cases ht
theorem Env.settle(h:Env X J st g a)(s:SV):Env X J (settle st s) g a:=h.of_env (zBB st s).1 (zBB st s).2.2.2.2.1
theorem Env.settles(h:Env X J st g a)(s:List SV):Env X J (settles st s) g a:=h.of_env (xUA st s).1 (xUA st s).2.2.2.2.1
theorem Ext.settle(st:St)(g:Gh)(s:SV):Ext st g (settle st s) g:=Ext.keys (zBB st s).2.2.2.2.2.2 (fun o cs ho=>⟨cs,by rw[(zBB st s).2.1];exact ho⟩)
theorem Ext.settles(st:St)(g:Gh)(s:List SV):Ext st g (settles st s) g:=Ext.keys (xUA st s).2.2.2.2.2.2 (fun o cs ho=>⟨cs,by rw[(xUA st s).2.1];exact ho⟩)
theorem Drops.addOb{st1:St}{M:Nat->Prop}(h:Drops st st1 M g)(o:Ob):Drops st (addOb st1 o) M g:=⟨h.env,h.lvl,h.nt,h.lps,h.objs,h.vars,h.keysV,h.keysO⟩
def qEA(P:Program)(X:Nat->List D->D)(w0:Base)(J:List D)(st:St)(g:Gh)(a:Act)(m:Sem Value)(w:World)(s:SV)(st':St):Prop :=
 ∃w' g',m.run P w = .ok (s.den X J g') w'/\Ext st g st' g'/\Mem P X w0 J st' g' w'/\Env X J st' g' a/\s.ok X J
theorem qAJ(h:Mem P X w0 J st g w)(he:Env X J st g a){n:Nat}{t u ty:TypeId}{s x r:SV}{st':St}(hx:x.ok X J)(ha:appS P st n t u s x=some (r,st'))(hob:zCA X Pre st'.obl J) :
  qEA P X w0 J st g a (Builtin.append_ #[t,u] ty #[s.den X J g,x.den X J g]) w r st':=by
 unfold appS at ha;split at ha
 ·rename_i e hu;simp only[Option.bind_eq_bind,Option.bind_eq_some_iff] at ha;obtain⟨i,hi,ha⟩:=ha;split at ha
  ·rename_i hut;subst hut;split at ha
   ·rename_i hgo;obtain⟨z,hz,hzs,hsz,hu8⟩:=zAD hgo;obtain⟨d2,hd2,⟨d,st2⟩,hto,st3,hn,ha⟩:=(by simpa only[Option.bind_eq_bind,Option.bind_eq_some_iff] using ha:∃d2,svT P (Dx.settle st x) u x=some d2 /\ ∃y,qND (Dx.settle st x) u s=some y /\ ∃st3,newV (addOb y.2 (.room (mkf .app [y.1,d2]) i.bytes)) ⟨.own u,mkf .app [y.1,d2]⟩ n=some st3/\some (SV.x n,st3)=some (r,st'));cases ha;obtain⟨hm1,_⟩:=Mem.settle x h;have he1:=he.settle x;have hrx:=xBA hm1 hx hd2;obtain⟨hdr,hown,hact,_⟩:=xVC hm1 hu hi hto;have hobl:st'.obl=(addOb st2 (.room (mkf .app [d,d2]) i.bytes)).obl:=by
     unfold newV at hn;split at hn
     ·cases hn;rfl
     ·cases hn
    rw[hobl] at hob;have ho1:=hob.1;simp only[Ob.holds,zFA,zDA,Fn.eval] at ho1;obtain⟨v',w',hrun,hg,hb,hv⟩:=zWK (ty:=ty) hu hi hz hzs hsz hu8 hown hrx ho1.1 ho1.2;obtain⟨k1,k2,k3,k4,_⟩:=zIC hm1 he1 (M:=fun b=>(s.den X J g).ownBlock=some b) (Fr.grown hg (fun k hk=>hk)) (fun b _ hb=>hact b hb) (hdr.addOb _) hn (v:=v') (fun b hb'=>hb b hb')
     (fun ok' h1 h2=>by
      simp only[zEB,zFA,zDA,Fn.eval];exact hv ok' (fun b hb=>⟨h1 b hb,hg.block b hb.1 (fun e=>hb.2.1 (hact b e.symm))⟩))
    exact⟨w',_,by rw[k4];exact hrun,(Ext.settle st g x).trans k3,k1,k2,trivial⟩
   ·cases ha
  ·split at ha
   ·rename_i d2 hstr hz he8;split at ha
    ·rename_i hsz;obtain⟨⟨d,st2⟩,hto,st3,hn,ha⟩:=(by simpa only[Option.bind_eq_bind,Option.bind_eq_some_iff] using ha:∃y,qND st t s=some y /\ ∃st3,newV (addOb y.2 (.room (mkf .app [y.1,d2]) 1)) ⟨.own t,mkf .app [y.1,d2]⟩ n=some st3/\some (SV.x n,st3)=some (r,st'));cases ha;obtain⟨hdr,hown,hact,_⟩:=xVC h hu hi hto;have hobl:st'.obl=(addOb st2 (.room (mkf .app [d,d2]) 1)).obl:=by
      unfold newV at hn;split at hn
      ·cases hn;rfl
      ·cases hn
     rw[hobl] at hob;have ho1:=hob.1;obtain⟨s2,hs2,hs2l⟩:=hx;simp only[Ob.holds,zFA,zDA,Fn.eval,Nat.mul_one,hs2] at ho1;obtain⟨v',w',hrun,hg,hb,hv⟩:=xRF (ty:=ty) hu hstr hi hz hsz.1 hsz.2 he8 hown s2 ho1.1 ho1.2;obtain⟨k1,k2,k3,k4,_⟩:=zIC h he (M:=fun b=>(s.den X J g).ownBlock=some b) (Fr.grown hg (fun k hk=>hk)) (fun b _ hb=>hact b hb) (hdr.addOb _) hn (v:=v') (fun b hb'=>hb b hb')
      (fun ok' h1 h2=>by
       simp only[zEB,zFA,zDA,Fn.eval,hs2];exact hv ok' (fun b hb=>⟨h1 b hb,hg.block b hb.1 (fun e=>hb.2.1 (hact b e.symm))⟩))
     exact⟨w',_,by rw[k4];simp only[SV.den,hs2,D.asStr];exact hrun,k3,k1,k2,trivial⟩
    ·cases ha
   ·cases ha
 ·cases ha
end
end Go.Dx
namespace Go.Dx
open Go
section
variable {P:Program} {X:Nat->List D->D} {Pre:Nat->List D->Prop} {w0:Base} {J:List D} {st:St} {g:Gh} {w:World} {a:Act}
theorem qEA.quiet(h:Mem P X w0 J st g w)(he:Env X J st g a){m:Sem Value}{s:SV}(hr:m.run P w = .ok (s.den X J g) w)(hs:s.ok X J):qEA P X w0 J st g a m w s st :=
 ⟨w,g,hr,Ext.refl st g,h,he,hs⟩
theorem zPI{v:Value}{d:D}(h:BytesAt w v d):d.asStr.length<=maxLen:=by
 cases h with
 | nil=>simp[D.asStr]
 | some hs hc h1 h2=>simp only[D.asStr];omega
theorem xQH{src dst e:TypeId}(hs:P.underlying src=some (.slice e))(hd:P.underlying dst=some .string)(h8:P.underlying e=some (.int .u8)){v:Value}{d:D}(hba:BytesAt w v d) :
  (convert src dst v).run P w = .ok (.string ⟨d.asStr.toArray⟩) w:=by
 unfold convert;simp only[Sem.run_bind,run_underlying hs,run_underlying hd,Result.andThen_ok];have hrun:=yVL (P:=P) hba;cases hba <;> (simp only[Sem.run_bind,run_underlying h8,Result.andThen_ok];exact hrun)
theorem zVI(h:Mem P X w0 J st g w)(he:Env X J st g a){n:Nat}{src dst:TypeId}{x r:SV}{st':St}(hx:x.ok X J)(hc:convS P st n src dst x=some (r,st')) :
  qEA P X w0 J st g a (convert src dst (x.den X J g)) w r st':=by
 unfold convS at hc;split at hc
 ·rename_i k1 k k2 e hs hd;cases hc;obtain⟨m,hm,_⟩:=hx;refine qEA.quiet h he ?_ ⟨_,by rw[zFA];rfl,yCC _ _⟩;unfold convert;simp only[Sem.run_bind,run_underlying hs,run_underlying hd,Result.andThen_ok];simp[SV.den,Conv.intToInt,zFA,zDA,Fn.eval,hm,D.asInt]
 ·rename_i x e hs hd;split at hc
  ·rename_i d h8 hb;cases hc;have hba:=xLG h hx hb hs h8;refine qEA.quiet h he ?_ ⟨_,by rw[zFA];rfl,by simpa[zDA] using zPI hba⟩;rw[xQH hs hd h8 hba];simp only[SV.den,zFA,zDA,Fn.eval,D.asStr]
  ·cases hc
 ·rename_i e d hs hd;split at hc
  ·rename_i h8;obtain⟨st1,hn,hc⟩:=(by simpa only[Option.bind_eq_bind,Option.bind_eq_some_iff] using hc:∃y,newV st ⟨.set dst,mkf .toBytes [d]⟩ n=some y/\some (SV.x n,y)=some (r,st'));cases hc;obtain⟨s,hs1,hs2⟩:=hx;have hss:(⟨s.toArray⟩:ByteArray).size=s.length:=by show s.toArray.size=_;simp
   obtain⟨cap,w',hrun,hf,hlt,hcap,hmax,hcells⟩:=xVI (P:=P) (e:=e) ⟨s.toArray⟩ (by rw[hss];exact hs2) w;obtain⟨k1,k2,k3,k4,_⟩:=qHC h he hf hn (v:=.slice (some ⟨w.heap.size,0,none⟩) s.length cap) (fun ok' h1 h2=>by
    simp only[zFA,zDA,Fn.eval,hs1,D.asStr];exact .bytes hd h8 (fun _=>⟨rfl,h2 _ (Nat.le_refl _) hlt⟩) (by rw[hss] at hcap;exact hcap) hmax (by simpa using hcells))
   refine⟨w',_,?_,k3,k1,k2,trivial⟩;rw[k4];unfold convert;simp only[Sem.run_bind,run_underlying hs,run_underlying hd,Result.andThen_ok];simp only[SV.den,hs1,D.asStr,Sem.run_bind,run_underlying h8,Result.andThen_ok];rw[hrun,hss]
  ·cases hc
 ·cases hc
theorem xLH:∀(z:List Value) (n:Nat),z≠[]->((List.range (n*z.length)).map fun i=>z.getD (i%z.length) undef)=(List.replicate n z).flatten
 | z,0,_=>by simp
 | z,n+1,hz=>by
  have hpos:0<z.length:=List.length_pos_iff.2 hz;rw[Nat.add_mul,Nat.one_mul,Nat.add_comm (n*z.length),List.range_add,List.map_append,List.replicate_succ,List.flatten_cons]
  congr 1
  ·apply List.ext_getElem
   ·simp
   ·intro i h1 h2;simp only[List.length_map,List.length_range] at h1;simp[Nat.mod_eq_of_lt h1,List.getD,List.getElem?_eq_getElem h1]
  ·rw[<- xLH z n hz,List.map_map];apply List.map_congr_left;intro i _;simp[Function.comp]
theorem xPC(z:Array Value)(n size:Nat)(hs:z.size=size)(hp:0<size):((Array.range (n*size)).map fun i=>z[i%z.size]!)=((List.replicate n z.toList).flatten).toArray:=by
 subst hs
 have:=xLH z.toList n (fun e=>by
  have h:z.toList.length=0:=by rw[e];rfl
  rw[Array.length_toList] at h;omega)
 rw[<- this];apply Array.ext';simp only[Array.toList_map,Array.toList_range,Array.length_toList];apply List.map_congr_left;intro i _;have hlt:i%z.size<z.size:=Nat.mod_lt _ hp;simp[List.getD,hlt,Array.getElem!_eq_getD,Array.getD,undef]
theorem zRF(l m:List SV):dens X J g (l++m)=dens X J g l++dens X J g m:=by simp[zSA]
theorem qPB(z:List SV):∀n,dens X J g (List.replicate n z).flatten=(List.replicate n (dens X J g z)).flatten
 | 0=>by simp[dens]
 | n+1=>by simp[List.replicate_succ,zRF,qPB z n]
theorem zFI(h:Mem P X w0 J st g w)(he:Env X J st g a){cells:Array Value}{e:TypeId}{n:Nat}{t:TypeId}{de:DE}{v:Value}{st1 st':St}(hst:st1.env=st.env/\st1.lvl=st.lvl/\st1.nt=st.nt/\st1.loops=st.loops/\st1.objs=st.objs/\st1.vars=st.vars)
  (hn:newV st1 ⟨.own t,de⟩ n=some st') (hb:v.ownBlock=some w.heap.size)
  (hv:∀ok':Nat->Prop,(∀b,okOf st g w b->ok' b)->ySA P ok' (w.alloc (.cells cells e)) t v (de.eval X J)) :
  Mem P X w0 J st' (g.setV n v (0,0)) (w.alloc (.cells cells e))/\Env X J st' (g.setV n v (0,0)) a/\Ext st g st' (g.setV n v (0,0))/\(SV.x n).den X J (g.setV n v (0,0))=v/\st'.obl=st1.obl:=by
 have hd:Drops st st1 (fun _=>False) g:=⟨hst.1,hst.2.1,hst.2.2.1,hst.2.2.2.1,fun o cs ho=>⟨hst.2.2.2.2.1▸ho,fun e=>e⟩,fun m vi hm=>.inr ⟨hst.2.2.2.2.2▸hm,fun b _ e=>e⟩,fun m vi hm=>⟨vi,hst.2.2.2.2.2▸hm⟩,fun o cs ho=>⟨cs,hst.2.2.2.2.1▸ho⟩⟩;exact zIC h he (Fr.alloc _ _ _) (fun _ _ e=>e.elim) hd hn (fun b hb'=>by
  have:zGA (VT.own t) v=some w.heap.size:=hb
  simp only at hb';rw[this] at hb';cases hb'
  exact⟨.inl (Nat.le_refl _),by simp⟩) (fun ok' h1 _=>hv ok' h1)
end
end Go.Dx
namespace Go.Dx
open Go
section
variable {P:Program} {X:Nat->List D->D} {Pre:Nat->List D->Prop} {w0:Base} {J:List D} {st:St} {g:Gh} {w:World} {a:Act}
theorem xMA{vi:VI}{n:Nat}{st st':St}(h:newV st vi n=some st'):st'.obl=st.obl:=by
 unfold newV at h;split at h
 ·cases h;rfl
 ·cases h
theorem yZB{α:Type}{p:α->Prop}{z:List α}(h:∀v∈z,p v)(n:Nat):∀v∈(List.replicate n z).flatten,p v:=by
 intro v hv;obtain⟨l,hl,hv⟩:=List.mem_flatten.1 hv;rw[(List.mem_replicate.1 hl).2] at hv;exact h v hv
theorem zDD(z:Array Value)(n size:Nat)(hs:z.size=size)(hp:0<size):madeCells z (n*size)=((List.replicate n z.toList).flatten).toArray:=xPC z n size hs hp
mutual
theorem xGJ:∀ {e:DE} {d:D},e.toD=some d->e.eval X J=d
 | .k d',d,h=>by simp only[DE.toD,Option.some.injEq] at h;simp[DE.eval,h]
 | .f n as,d,h=>by
  cases n <;> simp only[DE.toD,reduceCtorEq] at h
  obtain⟨l,hl,rfl⟩:=Option.map_eq_some_iff.1 h;simp only[DE.eval,qSH hl,Fn.eval]
 | .v i,d,h=>by simp[DE.toD] at h
 | .fold ..,d,h=>by simp[DE.toD] at h
 | .wh ..,d,h=>by simp[DE.toD] at h
theorem qSH:∀ {es:List DE} {ds:List D},toDs es=some ds->zDA X es J=ds
 | [],ds,h=>by simp only[toDs,Option.some.injEq] at h;simp[zDA,<- h]
 | a::as,ds,h=>by
  simp only[toDs] at h;split at h
  ·rename_i d ds' h1 h2;cases h;simp only[zDA,xGJ h1,qSH h2]
  ·cases h
end
theorem xXK(hX:∀l,(X 399 l).asInt=0)(w:World):Mem P X ⟨w,fun _=>False,fun _=>False⟩ [] (qQB 0) { rv:=fun _=>undef,rb:=fun _=>0,rh:=fun _=>(0,0),ex:=fun b=>b<w.heap.size } w:=by
 have hact:∀b,¬Actv (qQB 0) { rv:=fun _=>undef,rb:=fun _=>0,rh:=fun _=>(0,0),ex:=fun b=>b<w.heap.size } b:=by
  rintro b (⟨o,cs,h,_⟩|⟨n,vi,h,_⟩) <;> simp[qQB,xDA,yLA] at h
 exact⟨fun n vi h=>by simp[qQB,xDA,yLA] at h,fun n vi h=>by simp[qQB,xDA,yLA] at h,fun o o' c c' h=>by simp[qQB,xDA,yLA] at h,fun n m vi vj b h=>by simp[qQB,xDA,yLA] at h,fun o n c vi h=>by simp[qQB,xDA,yLA] at h,fun b hb=>absurd hb (hact b),fun l h=>by simp[qQB] at h,Fr.refl _ w,rfl,⟨fun b hb=>⟨hb,fun e=>e⟩,fun b hb=>hb.elim⟩,fun k hk=>absurd (hX _) hk⟩
theorem qWF{e:TypeId}{d:D}(h:zeroD P e=some d):∃i z zv,P.info? e=some i/\i.zero=some z/\zv.cells.toList=z.cells.toList /\ ∀ok w,Rep P ok w e zv d:=by
 unfold zeroD at h;split at h
 rotate_left
 ·cases h
 rename_i cs hcs;split at h
 rotate_left
 ·cases h
 rename_i v hg;split at h
 rotate_left
 ·cases h
 rename_i de hs;obtain⟨i,z,hi,hz,_,_,_⟩:=zDB (X:=fun _ _=>.nil) (J:=[]) (g:={ rv:=fun _=>undef,rb:=fun _=>0,rh:=fun _=>(0,0),ex:=fun _=>False }) hcs;have main:∀w:World,∃dd,P.underlying e=some dd /\ ∀ok,Rep P ok w e (if zHA dd then .agg z.cells else z.cells.toList.getD 0 undef) d/\(zHA dd=false->z.cells.toList.length=1):=fun w=>by
  have hm:=xXK (P:=P) (X:=fun _ _=>.nil) (fun _=>rfl) w;obtain⟨i',z',hi',hz',hd,hoks,hlen⟩:=zDB (X:=fun _ _=>.nil) (J:=[]) (g:={ rv:=fun _=>undef,rb:=fun _=>0,rh:=fun _=>(0,0),ex:=fun b=>b<w.heap.size }) hcs;rw[hi] at hi';cases hi'
  rw[hz] at hz';cases hz'
  obtain⟨dd,i2,hu,hi2,hl2,hden,hok⟩:=qXA hm hoks hg;have hr:=xBA hm hok hs;rw[xGJ h,hden,hd] at hr;refine⟨dd,hu,fun ok=>⟨hr.mono (fun b hb=>absurd hb.1 hb.2.2) (fun b hb=>absurd hb.1 hb.2.2),fun ha=>?_⟩⟩;rw[ha] at hl2;rw[<- hd,yHA];simpa using hl2
 obtain⟨dd,hu,hmain⟩:=main default;refine⟨i,z,if zHA dd then .agg z.cells else z.cells.toList.getD 0 undef,hi,hz,?_,fun ok w=>?_⟩
 ·cases ha:zHA dd with
  | true=>rfl
  | false =>
   have h1:=(hmain (fun _=>True)).2 ha;have h2:=(hmain (fun _=>True)).1;rw[ha] at h2;have h3:=(h2.notAgg hu ha).1;simp only[bfZ,if_false] at h3 ⊢;rw[h3]
   match hz':z.cells.toList,h1 with
   | [x],_=>rfl
 ·obtain⟨dd',hu',hr⟩:=main w;rw[hu] at hu';cases hu'
  exact(hr ok).1
theorem yUJ:∀n:Nat,(List.replicate n (Value.int .u8 0)).flatMap (fun u=>u.cells.toList)=(List.replicate n (0:UInt8)).map fun x=>Value.int .u8 x.toNat
 | 0=>rfl
 | n+1=>by simp only[List.replicate_succ,List.flatMap_cons,List.map_cons,yUJ n];rfl
theorem xBI(h:Mem P X w0 J st g w)(he:Env X J st g a){n:Nat}{t:TypeId}{l c r:SV}{st':St}(hc:c.ok X J)(hm:mkslS P st n t l c=some (r,st'))(hob:zCA X Pre st'.obl J) :
  qEA P X w0 J st g a (Instr.makeSlice t (l.den X J g) (c.den X J g)) w r st':=by
 unfold mkslS at hm;split at hm
 ·rename_i e hu;simp only[Option.bind_eq_bind,Option.bind_eq_some_iff] at hm;obtain⟨i,hi,hm⟩:=hm;split at hm
  ·rename_i hgo;obtain⟨z,hz,hzs,hsz,hu8⟩:=zAD hgo;split at hm
   ·rename_i f d;have hobl:∀ {vi:VI} {y:St},newV (addOb st (.cap d i.bytes)) vi n=some y->y=st' -> ∃mn:Nat,d.eval X J = .int (mn:Int)/\mn*i.bytes<=140737488355328/\mn<=maxLen:=fun {vi y} hn hy=>by
     subst hy;rw[xMA hn] at hob;have ho:=hob.1;simp only[Ob.holds] at ho;obtain⟨m,hm1,hm2⟩:=hc;rw[hm1] at ho;simp only[D.asInt] at ho;obtain⟨ho1,ho2,ho3⟩:=ho;obtain⟨mn,rfl⟩:=Int.eq_ofNat_of_zero_le ho1;simp only[Int.toNat_natCast] at ho2 ho3;exact⟨mn,hm1,ho2,ho3⟩
    have hu8e:isU8 P e=true↔P.underlying e=some (.int .u8):=by
     unfold isU8;split
     ·rename_i hh;simp[hh]
     ·rename_i hh;simp only[bfZ,false_iff];exact hh
    split at hm
    ·rename_i hx0;split at hm
     rotate_left
     ·cases hm
     rename_i st1 hn;have hst:st1=st':=by cases hm;rfl
     cases hm;have hf:=DE.beq_eq hx0;subst hf;obtain⟨mn,hm1,ho2,ho3⟩:=hobl hn hst;have hrun:=run_make (P:=P) w t e i z hu hi hz .i64 .i64 0 (mn:Int) (by omega) (by omega) (by
      have:i.bytes*mn<=281474976710656:=by rw[Nat.mul_comm];omega
      rw[<- Int.natCast_mul];omega) (by simp only[maxLen] at ho3;omega)
     simp only[Int.toNat_natCast,Int.toNat_zero] at hrun;obtain⟨k1,k2,k3,k4,_⟩:=zFI h he (st1:=addOb st (.cap d i.bytes)) (cells:=madeCells z.cells (mn*i.size)) (e:=e) ⟨rfl,rfl,rfl,rfl,rfl,rfl⟩ hn (v:=.slice (some ⟨w.heap.size,0,none⟩) 0 mn) rfl (fun ok' h1=>by
      refine⟨e,i,0,[],hu,hi,World.ownsRow_made w _ mn (Nat.zero_le _) ho3 (size_madeCells _ _),?_⟩;have hob':Value.ownBlock (.slice (some ⟨w.heap.size,0,none⟩) 0 mn)≠none:=by simp[Value.ownBlock]
      by_cases h8:P.underlying e=some (.int .u8)
      ·have:=hu8e.2 h8
       simp only[this,if_true];exact OwnD.bytes (s:=[]) hob' h8 (hu8 h8)
      ·have:isU8 P e=false:=by
        cases hh:isU8 P e with
        | true=>exact absurd (hu8e.1 hh) h8
        | false=>rfl
       simp only[this];exact OwnD.list (vs:=[]) (ds:=[]) hob' h8 rfl (by simp) (by simp))
     refine⟨_,_,?_,k3,k1,k2,trivial⟩;rw[k4];simp only[SV.den,DE.eval,D.asInt,hm1];exact hrun
    ·split at hm
     ·rename_i hfd;have hf:=DE.beq_eq hfd;subst hf;split at hm
      rotate_left
      ·cases hm
      rename_i zd hzd;split at hm
      rotate_left
      ·cases hm
      rename_i hz8;split at hm
      rotate_left
      ·cases hm
      rename_i st1 hn;have hst:st1=st':=by cases hm;rfl
      cases hm;obtain⟨mn,hm1,ho2,ho3⟩:=hobl hn hst;obtain⟨i',z',zv,hi',hz',hzc,hzr⟩:=qWF hzd;rw[hi] at hi';cases hi'
      rw[hz] at hz';cases hz'
      have hrun:=run_make (P:=P) w t e i z hu hi hz .i64 .i64 (mn:Int) (mn:Int) (by omega) (by omega) (by
       have:i.bytes*mn<=281474976710656:=by rw[Nat.mul_comm];omega
       rw[<- Int.natCast_mul];omega) (by simp only[maxLen] at ho3;omega)
      simp only[Int.toNat_natCast] at hrun;have hcells:madeCells z.cells (mn*i.size)=((List.replicate mn zv).flatMap fun u=>u.cells.toList).toArray:=by
       rw[zDD z.cells _ i.size hzs hsz,<- hzc]
       congr 1
       clear hrun ho2 ho3 hm1
       induction mn with
       | zero=>rfl
       | succ k ih=>simp[List.replicate_succ,ih]
      have hzsz:zv.cells.size=i.size:=by rw[<- Array.length_toList,hzc,Array.length_toList,hzs]
      obtain⟨k1,k2,k3,k4,_⟩:=zFI h he (st1:=addOb st (.cap f i.bytes)) (cells:=madeCells z.cells (mn*i.size)) (e:=e) ⟨rfl,rfl,rfl,rfl,rfl,rfl⟩ hn (v:=.slice (some ⟨w.heap.size,0,none⟩) mn mn) rfl (fun ok' h1=>by
       have hob':Value.ownBlock (.slice (some ⟨w.heap.size,0,none⟩) mn mn)≠none:=by simp[Value.ownBlock]
       refine⟨e,i,mn,(List.replicate mn zv).flatMap fun u=>u.cells.toList,hu,hi,?_,?_⟩
       ·have hl1:((List.replicate mn zv).flatMap fun u=>u.cells.toList).length=mn*i.size:=by
         rw[qSE (size:=i.size) (fun u hu'=>by rw[(List.mem_replicate.1 hu').2];exact hzsz),List.length_replicate]
        refine⟨hl1,.inr ⟨w.heap.size,mn,_,rfl,Nat.zero_le _,heap_alloc_new w _,Nat.le_refl _,ho3,size_madeCells _ _,?_⟩⟩;rw[hcells];show List.take _ ((List.replicate mn zv).flatMap fun u=>u.cells.toList)=_;rw[List.take_of_length_le (Nat.le_of_eq hl1)]
       by_cases h8:P.underlying e=some (.int .u8)
       ·have:=hu8e.2 h8
        rw[this] at hz8;have hz0:zd = .int 0:=by
         have:zd.beq (.int 0)=true:=by simpa using hz8
         exact D.beq_eq this
        subst hz0;have hzv:zv = .int .u8 0:=by
         have hr:=hzr (fun _=>False) w;cases hr with
         | int hu' hw' =>
          rw[h8] at hu';cases hu';rfl
        simp only[this,if_true,DE.eval,zDA,Fn.eval,hm1,D.asInt,Int.toNat_natCast]
        have:=OwnD.bytes (P:=P) (ok:=ok') (w:=w.alloc (.cells (madeCells z.cells (mn*i.size)) e)) (s:=List.replicate mn 0) hob' h8 (hu8 h8)
        rw[List.length_replicate] at this;have e1:(List.replicate mn zv).flatMap (fun u=>u.cells.toList)=(List.replicate mn (0:UInt8)).map fun x=>Value.int .u8 x.toNat:=by
         rw[hzv];exact yUJ mn
        rw[e1];exact this
       ·have:isU8 P e=false:=by
         cases hh:isU8 P e with
         | true=>exact absurd (hu8e.1 hh) h8
         | false=>rfl
        simp only[this,bfZ,if_false,DE.eval,zDA,Fn.eval,hm1,D.asInt,Int.toNat_natCast]
        have:=OwnD.list (P:=P) (ok:=ok') (w:=w.alloc (.cells (madeCells z.cells (mn*i.size)) e)) (size:=i.size) (vs:=List.replicate mn zv) (ds:=List.replicate mn zd) hob' h8 (by simp) (fun u hu'=>by rw[(List.mem_replicate.1 hu').2];exact hzsz) (fun j u d h1 h2=>by
         rw[(List.mem_replicate.1 (List.mem_of_getElem? h1)).2,(List.mem_replicate.1 (List.mem_of_getElem? h2)).2];exact hzr _ _)
        rw[List.length_replicate] at this;exact this)
      refine⟨_,_,?_,k3,k1,k2,trivial⟩;rw[k4];simp only[SV.den,DE.eval,D.asInt,hm1];exact hrun
     ·cases hm
   ·cases hm
  ·cases hm
 ·cases hm
theorem zDI(z:Array Value)(n:Nat){size:Nat}(hs:z.size=size)(hp:0<size):Builtin.zeroCells z n=((List.replicate n z.toList).flatten).toArray:=by
 have:=zDD z n size hs hp
 rw[<- this];subst hs;simp only[Builtin.zeroCells,madeCells]
theorem zRJ(zv:Value):∀n:Nat,(List.replicate n zv.cells.toList).flatten=(List.replicate n zv).flatMap fun u=>u.cells.toList
 | 0=>rfl
 | n+1=>by rw[List.replicate_succ,List.replicate_succ,List.flatten_cons,List.flatMap_cons,zRJ zv n]
theorem zIG(h:Mem P X w0 J st g w)(he:Env X J st g a){n:Nat}{t u ty:TypeId}{s x r:SV}{st':St}(hx:x.ok X J)(ha:appZ P st n t u s x=some (r,st'))(hob:zCA X Pre st'.obl J) :
  qEA P X w0 J st g a (Builtin.append_ #[t,u] ty #[s.den X J g,x.den X J g]) w r st':=by
 unfold appZ at ha;split at ha
 rotate_left
 ·cases ha
 rename_i e kn kx d hu hun;split at ha
 rotate_left
 ·cases ha
 rename_i i zd hi hzd;split at ha
 rotate_left
 ·cases ha
 rename_i hgo;simp only[baZ,Bool.not_eq_true'] at hgo;obtain⟨hgo,h8⟩:=hgo;obtain⟨z,hz,hzs,hsz,hu8⟩:=zAD hgo;split at ha
 rotate_left
 ·cases ha
 rename_i st1 hn;cases ha;have h8n:P.underlying e≠some (.int .u8):=fun hh=>by simp[isU8,hh] at h8
 rw[xMA hn] at hob;have ho:=hob.1;simp only[Ob.holds] at ho;obtain⟨m,hm1,hm2⟩:=hx;rw[hm1] at ho;simp only[D.asInt] at ho;obtain⟨ho1,ho2,ho3⟩:=ho;obtain⟨mn,rfl⟩:=Int.eq_ofNat_of_zero_le ho1;simp only[Int.toNat_natCast] at ho2 ho3;obtain⟨i',z',zv,hi',hz',hzc,hzr⟩:=qWF hzd;rw[hi] at hi';cases hi'
 rw[hz] at hz';cases hz'
 have hzsz:zv.cells.size=i.size:=by rw[<- Array.length_toList,hzc,Array.length_toList,hzs]
 have hev:(DE.f .app [.k .nil,.f .repl [d,.k zd]]).eval X J=D.appd .nil (.list (List.replicate mn zd)):=by
  simp only[DE.eval,zDA,Fn.eval,hm1,D.asInt,Int.toNat_natCast]
 have hs0:(SV.c CV.nils).den X J g = .slice none 0 0:=rfl;have hx0:(SV.i kx d).den X J g = .int kx (mn:Int):=by simp only[SV.den,hm1,D.asInt]
 rw[hs0,hx0];by_cases h0:mn=0
 ·subst h0;have hrun:(Builtin.append_ #[t,u] ty #[.slice none 0 0,.int kx ((0:Nat):Int)]).run P w = .ok (.slice none 0 0) w:=by
   have hw:IntKind.i64.wrap (0:Int)=0:=by decide
   simp[Builtin.append_,run_underlying hu,run_underlying hun,sizeOf,typeInfo,hi,asInt,asIntOf,hw]
  obtain⟨k1,k2,k3,k4,_⟩:=zIC h he (Fr.refl (fun _=>False) w) (fun _ _ e=>e.elim) (Drops.addOb (Drops.same st g) (.cap d i.bytes)) hn (v:=.slice none 0 0) (fun b hb=>by simp[zGA,Value.ownBlock] at hb) (fun ok' h1 _=>by
   simp only[zEB];rw[hev]
   exact ySA.nilv hu hi)
  exact⟨w,_,by rw[k4];exact hrun,k3,k1,k2,trivial⟩
 ·have hbytes:mn*i.bytes<=281474976710656:=Nat.le_trans ho2 (by decide);have hrun:=Go.Lib.run_append_nil_zeros (P:=P) w t u ty e i z kx kn hu hun hi hz mn (by omega) hsz (by simp only[maxLen] at ho3;omega) hbytes;have hge:=grownCap_ge w mn 0 e;have hcm:=grownCap_le_maxLen w mn 0 e ho3;have hl1:((List.replicate mn zv).flatMap fun u=>u.cells.toList).length=mn*i.size:=by
   rw[qSE (size:=i.size) (fun u hu'=>by rw[(List.mem_replicate.1 hu').2];exact hzsz),List.length_replicate]
  have hzc2:(Builtin.zeroCells z.cells mn).toList=(List.replicate mn zv).flatMap fun u=>u.cells.toList:=by
   rw[zDI z.cells mn hzs hsz,<- hzc];exact zRJ zv mn
  generalize hcells:Builtin.zeroCells z.cells mn++Builtin.zeroCells z.cells (grownCap w mn 0 e-mn)=cells at hrun;have hfr:Fr (fun _=>False) w (w.drew.alloc (.cells cells e)):=(Fr.drew (fun _=>False) w).trans (Fr.alloc (fun _=>False) w.drew (.cells cells e)) (fun _ _ e=>e);obtain⟨k1,k2,k3,k4,_⟩:=zIC h he hfr (fun _ _ e=>e.elim) (Drops.addOb (Drops.same st g) (.cap d i.bytes)) hn (v:=.slice (some ⟨w.heap.size,0,none⟩) mn (grownCap w mn 0 e)) (fun b hb=>by
    have:b=w.heap.size:=by simpa[zGA,Value.ownBlock] using hb.symm
    subst this;exact⟨.inl (Nat.le_refl _),by have:=hfr.size;show w.heap.size<(w.drew.alloc (.cells cells e)).heap.size;simp⟩) (fun ok' h1 _=>by
   simp only[zEB];rw[hev]
   have hob':Value.ownBlock (.slice (some ⟨w.heap.size,0,none⟩) mn (grownCap w mn 0 e))≠none:=by simp[Value.ownBlock]
   refine⟨e,i,mn,(List.replicate mn zv).flatMap fun u=>u.cells.toList,hu,hi,?_,?_⟩
   ·refine⟨hl1,.inr ⟨w.heap.size,grownCap w mn 0 e,cells,rfl,Nat.zero_le _,heap_alloc_new w.drew _,hge,hcm,?_,?_⟩⟩
    ·rw[<- hcells];simp only[Array.size_append,size_zeroCells,hzs,<- Nat.add_mul]
     congr 1;omega
    ·rw[<- hcells,Array.toList_append,hzc2,<- hl1];exact List.take_left
   ·have hd:D.appd .nil (.list (List.replicate mn zd)) = .list (List.replicate mn zd):=by
     cases mn with
     | zero=>exact absurd rfl h0
     | succ k=>rfl
    rw[hd]
    have:=OwnD.list (P:=P) (ok:=ok') (w:=w.drew.alloc (.cells cells e)) (size:=i.size) (vs:=List.replicate mn zv) (ds:=List.replicate mn zd) hob' h8n (by simp) (fun u hu'=>by rw[(List.mem_replicate.1 hu').2];exact hzsz) (fun j u d h1 h2=>by
     rw[(List.mem_replicate.1 (List.mem_of_getElem? h1)).2,(List.mem_replicate.1 (List.mem_of_getElem? h2)).2];exact hzr _ _)
    rw[List.length_replicate] at this;exact this)
  exact⟨_,_,by rw[k4];exact hrun,k3,k1,k2,trivial⟩
theorem zII(h:Mem P X w0 J st g w)(he:Env X J st g a){n:Nat}{t u ty:TypeId}{s x r:SV}{st':St}(hx:x.ok X J)(ha:appZ2 P st n t u s x=some (r,st'))(hob:zCA X Pre st'.obl J) :
  qEA P X w0 J st g a (Builtin.append_ #[t,u] ty #[s.den X J g,x.den X J g]) w r st':=by
 unfold appZ2 at ha;split at ha
 rotate_left
 ·cases ha
 rename_i m;split at ha
 rotate_left
 ·cases ha
 rename_i t' d0 hl;split at ha
 rotate_left
 ·cases ha
 rename_i ht;subst ht;split at ha
 rotate_left
 ·cases ha
 rename_i r1 st1 hz;cases ha;have ho:=hob.1;simp only[Ob.holds,zCA] at ho;have hnil:d0.eval X J = .nil:=by
  cases hd:d0.eval X J with
  | nil=>rfl
  | _ =>
   have:=(ho (by simp only[DE.eval,zDA,hd];rfl)).1
   exact absurd rfl this
 obtain⟨w',g',k1,k2,k3,k4,k5⟩:=zIG (ty:=ty) h he (s:=.c .nils) hx hz hob.2;have hv:=h.va m _ hl;simp only[zEB] at hv;rw[hnil] at hv;have hden:(SV.x m).den X J g=(SV.c CV.nils).den X J g:=by
  obtain⟨_,_,_,_,_,_,_,ho⟩:=hv;cases ho with
  | nil hv=>exact hv
 rw[hden];exact⟨w',g',k1,⟨k2.rv,k2.rb⟩,⟨k3.va,k3.ob,k3.oo,k3.vv,k3.ov,k3.lo,k3.lp,k3.fr,k3.lv,k3.ex,k3.gl⟩,⟨k4.tm,k4.df,k4.sz⟩,k5⟩
theorem xYJ(h:Mem P X w0 J st g w)(he:Env X J st g a){n:Nat}{t u ty:TypeId}{s x r:SV}{st':St}(hx:x.ok X J)(ha:appA P st n t u s x=some (r,st'))(hob:zCA X Pre st'.obl J) :
  qEA P X w0 J st g a (Builtin.append_ #[t,u] ty #[s.den X J g,x.den X J g]) w r st':=by
 unfold appA at ha;split at ha
 ·rename_i q hq;cases ha;exact qAJ h he hx hq hob
 ·split at ha
  ·rename_i q hq;cases ha;exact zIG h he hx hq hob
  ·exact zII h he hx ha hob
theorem xSC{t e:TypeId}{i:TypeInfo}(hu:P.underlying t=some (.slice e))(hi:P.info? e=some i)(b off len cap:Nat)(k:IntKind)(x:Int)(h0:0<=x)(hlt:x<len)(w:World) :
  (Instr.indexAt t (.slice (some ⟨b,off,none⟩) len cap) (.int k x)).run P w = .ok (.pointer (some ⟨b,off+x.toNat*i.size,none⟩)) w:=by
 simp[Instr.indexAt,asIntOf,run_underlying hu,h0,hlt,xCA hi,zTB]
theorem zWG(h:Mem P X w0 J st g w){t:TypeId}{x ix r:SV}(hi:idxS P st t x ix=some r) :
  (Instr.indexAt t (x.den X J g) (ix.den X J g)).run P w = .ok (r.den X J g) w/\r.ok X J:=by
 unfold idxS at hi;split at hi
 ·rename_i e hu;simp only[Option.bind_eq_bind,Option.bind_eq_some_iff] at hi;obtain⟨i,hinf,hi⟩:=hi;split at hi
  ·rename_i o n a;split at hi
   ·rename_i hc;cases hi;refine⟨?_,trivial⟩
    have:=xSC hu hinf (g.rb o) 0 n n .i64 a hc.1 hc.2 w
    simpa[SV.den,DE.eval,D.asInt] using this
   ·cases hi
  ·rename_i l;obtain⟨lp,hlp,hi⟩:=(by simpa only[Option.bind_eq_bind,Option.bind_eq_some_iff] using hi:∃lp,st.loops.find? (fun(lp:Lp)=>lp.lvl==l)=some lp/\(if lp.src.beq x&&lp.el==e then some (SV.ra lp.row 0) else none)=some r);split at hi
   ·rename_i hc;cases hi;simp only[baZ,beq_iff_eq] at hc;have hsrc:=SV.beq_eq hc.1;have hmem:=List.mem_of_find?_eq_some hlp;have hl:=List.find?_some hlp;simp only[beq_iff_eq] at hl;obtain⟨b,off,len,cap,k,i',h1,h2,h3,h4,h5⟩:=h.lp lp hmem;rw[hc.2,hinf] at h4;cases h4
    refine⟨?_,trivial⟩;rw[<- hsrc,h1];subst hl;have hev:(DE.v lp.lvl).eval X J = .int (k:Nat):=by simp[DE.eval,List.getD,h2]
    have:=xSC hu hinf b off len cap .i64 (k:Int) (by omega) (by omega) w
    simp only[SV.den,hev,D.asInt,h5,Nat.add_zero];simpa using this
   ·cases hi
  ·cases hi
 ·cases hi
theorem zFK{l:List SV}{r:SV}(hl:oks X J l)(hm:minS l=some r)(ts:Array TypeId)(ty:TypeId)(w:World) :
  (Builtin.min_ ts ty (dens X J g l).toArray).run P w = .ok (r.den X J g) w/\r.ok X J:=by
 unfold minS at hm;split at hm
 ·rename_i k e k' e';split at hm
  ·rename_i hk;subst hk;cases hm;obtain⟨⟨n,h1,h2⟩,⟨m,h3,h4⟩,_⟩:=hl;refine⟨?_,⟨if m<n then m else n,by rw[zFA];simp only[zDA,Fn.eval,h1,h3,D.asInt];congr 1,by split <;> assumption⟩⟩;simp[Builtin.min_,dens,SV.den,Builtin.min2,zFA,zDA,Fn.eval,h1,h3,D.asInt]
   congr
  ·cases hm
 ·cases hm
theorem qZJ(h:Mem P X w0 J st g w){t:TypeId}{x:SV}{k:Kd}{d:DE}(hx:x.ok X J)(hd:xSE P st x=some (k,d))(hk:kdT P t=some k)(hkk:k = .sl∨k = .sr)(ty:TypeId) :
  (Builtin.len_ #[t] ty #[x.den X J g]).run P w = .ok ((SV.i .i64 (mkf .len [d])).den X J g) w/\(SV.i .i64 (mkf .len [d])).ok X J:=by
 have hsh:=qQC h hx hd;unfold kdT at hk;cases hu:P.underlying t with
 | none=>rw[hu] at hk;simp at hk
 | some td =>
  rw[hu] at hk;have hwf:∀n:Nat,n<=maxLen->(Lit.int .i64 (n:Int)).wf=true:=by
   intro n hn
   have:n<=9223372036854775807:=hn
   apply zOC;simp[IntKind.min,IntKind.max,IntKind.signed,IntKind.bits];omega
  have he:(mkf Fn.len [d]).eval X J = .int (d.eval X J).len:=by rw[zFA];rfl
  generalize hv:x.den X J g=v at hsh;generalize hdd:d.eval X J=dd at hsh;cases hsh with
  | slice hn ha hm h0 =>
   cases td <;> simp[kdOf] at hk
   refine⟨?_,⟨_,he,hwf _ (by rw[hdd,<- hn];exact hm)⟩⟩;simp[Builtin.len_,run_underlying hu,goInt,SV.den,he,hdd,D.asInt,hn]
  | str hn hm =>
   cases td <;> simp[kdOf] at hk
   refine⟨?_,⟨_,he,hwf _ (by rw[hdd,<- hn];exact hm)⟩⟩;simp[Builtin.len_,run_underlying hu,goInt,SV.den,he,hdd,D.asInt,hn]
  | ptr ha=>simp at hkk
  | map ha hl=>simp at hkk
theorem lenS_any(h:Mem P X w0 J st g w){t:TypeId}{x:SV}{k:Kd}{d:DE}(hx:x.ok X J)(hd:xSE P st x=some (k,d))(hk:kdT P t=some k)(hkk:k = .sl∨k = .sr)(ty:TypeId)(w2:World) :
  (Builtin.len_ #[t] ty #[x.den X J g]).run P w2 = .ok ((SV.i .i64 (mkf .len [d])).den X J g) w2/\(SV.i .i64 (mkf .len [d])).ok X J:=by
 have hsh:=qQC h hx hd;unfold kdT at hk;cases hu:P.underlying t with
 | none=>rw[hu] at hk;simp at hk
 | some td =>
  rw[hu] at hk;have hwf:∀n:Nat,n<=maxLen->(Lit.int .i64 (n:Int)).wf=true:=by
   intro n hn
   have:n<=9223372036854775807:=hn
   apply zOC;simp[IntKind.min,IntKind.max,IntKind.signed,IntKind.bits];omega
  have he:(mkf Fn.len [d]).eval X J = .int (d.eval X J).len:=by rw[zFA];rfl
  generalize hv:x.den X J g=v at hsh;generalize hdd:d.eval X J=dd at hsh;cases hsh with
  | slice hn ha hm h0 =>
   cases td <;> simp[kdOf] at hk
   refine⟨?_,⟨_,he,hwf _ (by rw[hdd,<- hn];exact hm)⟩⟩;simp[Builtin.len_,run_underlying hu,goInt,SV.den,he,hdd,D.asInt,hn]
  | str hn hm =>
   cases td <;> simp[kdOf] at hk
   refine⟨?_,⟨_,he,hwf _ (by rw[hdd,<- hn];exact hm)⟩⟩;simp[Builtin.len_,run_underlying hu,goInt,SV.den,he,hdd,D.asInt,hn]
  | ptr ha=>simp at hkk
  | map ha hl=>simp at hkk
end
end Go.Dx
