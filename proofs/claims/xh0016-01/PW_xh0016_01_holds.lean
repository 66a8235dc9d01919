import PyProof.Rows.All
import Wide.All
import OpenK.AllK
import Wide.FinOn
import PyProof.RaisesMany
import KE.KSuper
import KE.KFromBytes
import PyProof.CodeObjX
import PyProof.GenQ
import PyProof.ZipIter
import PyProof.ExcFactsAll.ValueError
import Lean
import PySem.Challenge.RW_xh0016_01
set_option Elab.async false
set_option linter.unusedVariables false
set_option genInjectivity false
set_option genCtorIdx false
set_option tactic.hygienic false
set_option genSizeOf false
set_option maxRecDepth 100000
set_option maxHeartbeats 4000000
set_option linter.unusedSectionVars false
set_option linter.defProp false
section
open PySem PySem.W PyProof.Rows
namespace Mine.Internal
noncomputable def aa:=@wpAny_bind
noncomputable def ab:=@wpAny_pure
noncomputable def ac:=@wpAny_mono
noncomputable def ai:=@sizeLine_eq
noncomputable def am:=@List.length_map
noncomputable def ao:=@List.getElem?_eq_getElem
noncomputable def aq:=@Nat.le_of_eq
noncomputable def ay:=@List.mem_of_getElem?
noncomputable def aA:=@List.map_cons
noncomputable def aB:=@Nat.succ_le_succ
noncomputable def aC:=@Nat.le_refl
noncomputable def aD:=@Nat.le_add_right
noncomputable def aE:=@List.size_toArray
noncomputable def aF:=@List.getD_eq_getElem?_getD
noncomputable def aG:=@List.map_map
noncomputable def aH:=@List.length_append
noncomputable def aI:=@List.map_append
noncomputable def aJ:=@List.length_cons
noncomputable def aK:=@List.getElem?_map
noncomputable def aM:=@List.length_range
noncomputable def aN:=@Nat.not_le_of_lt
noncomputable def aO:=@Nat.zero_le
noncomputable def aP:=@List.map_congr_left
noncomputable def aQ:=@Nat.add_le_add
noncomputable def aS:=@List.lookup_cons
noncomputable def aT:=@Heap.get?_push_of_some
noncomputable def aU:=@wpAny_field
noncomputable def aV:=@wpAny_holding
noncomputable def aW:=@Int.natCast_nonneg
noncomputable def aX:=@if_neg
noncomputable def aY:=@if_pos
noncomputable def aZ:=@Nat.le_of_not_lt
noncomputable def ba:=@Nat.add_right_comm
noncomputable def bc:=@List.mem_map_of_mem
noncomputable def be:=@decide_eq_true
noncomputable def bf:=@decide_eq_false
noncomputable def bg:=@Nat.sub_eq_zero_of_le
noncomputable def bi:=@List.length_filter_le
noncomputable def bj:=@Heap.get?_push_size
noncomputable def bn:=@Nat.pos_of_ne_zero
noncomputable def bo:=@Int.lt_of_le_of_lt
noncomputable def bp:=@wpAny_newObj_type
noncomputable def bq:=@beq_self_eq_true
noncomputable def br:=@Heap.lt_size
end Mine.Internal
end
section
namespace Mine.Internal
section
theorem nT {a b c:Nat} (h:a<=b) (k:b<=c):a<=c:=Nat.le_trans h k
theorem nD {a b c:Nat} (h:a<=b) (k:Nat.ble b c=true):a<=c:=Nat.le_trans h (Nat.le_of_ble_eq_true k)
theorem szD {a b:Nat} (h:a<=b) (k:Nat.ble b 16777216=true):a<=PySem.sizeLine:=Nat.le_trans (nD h k) (aq (by decide))
theorem szM {α β:Type}{f:α->β}{l:List α}{b:Nat} (h:l.length<=b) (k:Nat.ble b 16777216=true):(l.map f).length<=PySem.sizeLine:=by rw [am]; exact szD h k
theorem nL {a b:Nat} (h:a<b):a<=b:=Nat.le_of_lt h
theorem nR {a b c:Nat} (h:a+b<=c):a<=c:=Nat.le_of_add_right_le h
theorem iL {a b:Nat} (h:a<=b):(a:Int)<=b:=Int.ofNat_le.2 h
theorem iT {a b:Nat} (h:a<b):(a:Int)<b:=Int.ofNat_lt.2 h
theorem iN {k:Int}{n:Nat} (h:decide (k<=0)=true):k<=n:=Int.le_trans (of_decide_eq_true h) (aW n)
theorem iM {k n:Nat}:-(k:Int)<=n:=Int.le_trans (Int.neg_nonpos_of_nonneg (aW _)) (aW _)
theorem iU {n b:Nat}{k:Int} (h:n<=b) (d:decide ((b:Int)<k)=true):(n:Int)<k:=bo (Int.ofNat_le.2 h) (of_decide_eq_true d)
theorem gro {a b c d:Nat} (h:a+(b+1)<=c) (k:d<=a+1):d+b<=c:=Nat.le_trans (Nat.add_le_add_right k b) (Nat.le_trans (aq ((Nat.add_assoc a 1 b).trans (congrArg (a + ·) (Nat.add_comm 1 b)))) h)
theorem gro2 {a b c d:Nat} (h:a<=b+c) (k:b<=d+1):a<=d+(c+1):=Nat.le_trans h (Nat.le_trans (Nat.add_le_add_right k c) (aq ((Nat.add_assoc d 1 c).trans (congrArg (d + ·) (Nat.add_comm 1 c)))))
theorem gro3 {a b k:Nat} (h:a<=k*b){c:Nat} (q:c<=k):c+a<=k*(b+1):=by rw [Nat.mul_succ,Nat.add_comm]; exact aQ h q
theorem ltNe {a b:Nat} (h:a<b+1) (k:¬ a=b):a<b:=Nat.lt_of_le_of_ne (Nat.le_of_lt_succ h) k
theorem ltNe' {a b:Nat} (h:a<b+1) (k:¬ b=a):a<b:=ltNe h fun e=>k e.symm
theorem leNe {a b:Nat} (h:a<=b+1) (k:¬ a=b+1):a<=b:=Nat.le_of_lt_succ (Nat.lt_of_le_of_ne h k)
theorem ltNe2 {a b:Nat} (h:a<=b) (k:¬ a=b):a<b:=Nat.lt_of_le_of_ne h k
theorem lt_of {a b:Nat} (h:¬ a=b) (k:¬ a<b):b<a:=Nat.lt_of_le_of_ne (aZ k) fun e=>h e.symm
theorem sub1 {a:Nat} (h:0<a):a - 1+1=a:=Nat.sub_add_cancel h
theorem sub1' {a b:Nat} (h:b<a):a - 1+1=a:=Nat.sub_add_cancel (Nat.lt_of_le_of_lt (aO b) h)
theorem subS {a b:Nat} (h:b<a):a - b=a - (b+1)+1:=by rw [Nat.sub_succ]; exact (sub1 (Nat.sub_pos_of_lt h)).symm
theorem subE {a b c:Nat} (h:a - b=c+1):a - (b+1)=c:=by rw [Nat.sub_succ,h]; rfl
theorem subE' {a b c:Nat} (h:a - b=c+1):b<a:=Nat.lt_of_sub_pos (h ▸ Nat.succ_pos c)
theorem addS {a b:Nat} (h:b<a):b+1+(a - (b+1))=a:=Nat.add_sub_cancel' h
theorem addS' {a b:Nat} (h:b<=a):b+(a - b)=a:=Nat.add_sub_cancel' h
theorem swp {a b:Nat}:a+(b+1)=a+1+b:=by rw [<- Nat.add_assoc,ba]
theorem prC (m:Nat):((m+1:Nat):Int) - 1=(m:Int):=by rw [Int.natCast_succ]; exact Int.add_sub_cancel _ _
theorem lenA {a b c:Nat} (h:a+b+1<=c):a+1+b<=c:=by rw [ba]; exact h
theorem lenB {a b c:Nat} (h:a+1+b<=c):a+(b+1)<=c:=by rw [swp]; exact h
theorem iSw {a b c:Int} (h:a+(b+c)=d):a+b+c=d:=(Int.add_assoc a b c).trans h
theorem casN {a b:Nat} (h:(a:Int)=b):a=b:=Int.ofNat_inj.1 h
theorem cN {a b:Nat} (h:a=b):(a:Int)=b:=congrArg Nat.cast h
theorem asc1 {a b:Nat}:a+(b+1) - b=a+1:=by rw [<- Nat.add_assoc,ba,Nat.add_sub_cancel]
theorem asc0 {a b:Nat}:a - (b+a - b)=0:=by rw [Nat.add_sub_cancel_left,Nat.sub_self]
theorem asc2 {a b:Nat}:a - (a+b)=0:=bg (aD a b)
theorem sc5 {x:Nat} (h:x+1<=5):5 - x=4 - x+1:=Nat.succ_sub (Nat.le_of_succ_le_succ h)
theorem ss5 {x:Nat} (h:x<4):5 - (5 - x)=x:=Nat.sub_sub_self (Nat.le_trans (Nat.le_of_lt h) (by decide))
theorem sd5 {x:Nat} (h:x+1<=5):5 - (x+1 - 1)=5 - (x+1)+1:=subS h
theorem s41 {x:Nat} (h:x<=4) (k:¬ x=4):4 - x=4 - x - 1+1:=(sub1 (Nat.sub_pos_of_lt (ltNe2 h k))).symm
theorem s31 {x y:Nat} (h:y<x) (k:x<=4):4 - y=3 - y+1:=Nat.succ_sub (Nat.le_of_lt_succ (Nat.lt_of_lt_of_le h k))
theorem i1s {x:Nat} (h:x<2):(1:Int) - (x:Int)=((1 - x:Nat):Int):=(Int.ofNat_sub (Nat.le_of_lt_succ h)).symm
theorem minL {a b c:Nat} (e:a=b) (h:c<a):c<min a b:=by rw [<- e,Nat.min_self]; exact h
theorem or2 {x:Nat} (h:x<2):x=0\/x=1:=(by decide:∀ x,x<2->x=0\/x=1) x h
theorem or4 {x:Nat} (h:x<4):x=0\/x=1\/x=2\/x=3:=(by decide:∀ x,x<4->x=0\/x=1\/x=2\/x=3) x h
theorem lS {α:Type}{n:Nat}{l:List α}{P:List α->Prop} (h:l.length=n+1) (f:∀ a t,t.length=n->P (a::t)):P l:=by
 induction l using List.casesOn with
 | nil=>exact (Nat.succ_ne_zero _ h.symm).elim
 | cons a t=>exact f a t (Nat.succ.inj h)
theorem l3 {α:Type}{l:List α}{P:List α->Prop} (h:l.length=3) (f:∀ a b c,P [a,b,c]):P l:=
 lS h fun a u_ h=>lS (P:=fun t=>P (a::t)) h fun b u_ h=>lS (P:=fun t=>P (a::b::t)) h fun c u_ h=>(List.length_eq_zero_iff.mp h).symm ▸ f a b c
theorem l4 {α:Type}{l:List α}{P:List α->Prop} (h:l.length=4) (f:∀ a b c d,P [a,b,c,d]):P l:=
 lS h fun a t h=>l3 (P:=fun t=>P (a::t)) h (f a)
theorem or3 {x:Nat} (h:x<=3):x=0\/x=1\/x=2\/x=3:=or4 (Nat.lt_succ_of_le h)
theorem ltP {a b c:Nat} (h:a=b) (k:0<b){x:Nat} (q:x<=a - 1):x<b:=by subst h; exact Nat.lt_of_le_of_lt q (Nat.sub_lt k (by decide))
theorem mul4 {a b c:Nat} (h:a<=2*b) (k:c<=2):c+a<=2*(b+1):=gro3 h k
theorem subLt {a b c:Nat} (h:a<b - c):a+c<b:=Nat.add_lt_of_lt_sub h
theorem subLt' {a b c:Nat} (h:a<b - c):c+a<b:=by rw [Nat.add_comm]; exact Nat.add_lt_of_lt_sub h
theorem zle {a b:Nat} (h:a=0) (k:b<=a):b=0:=Nat.eq_zero_of_le_zero (h ▸ k)
theorem iltA {a b c:Nat} (h:a<b):(a:Int)<(b:Int)+(c:Int):=Int.ofNat_lt.2 (Nat.lt_of_lt_of_le h (aD b c))
theorem ilt5 {i:Nat} (h:i<5):(i:Int)<2 ^ 62:=iU (Nat.le_of_lt h) rfl
theorem wgt {c h W:Nat}:((c:Int)<h/\(W:Int)>(h:Int) - c)↔c<h/\h - c<W:=
 ⟨fun x=>have a:=Int.ofNat_lt.1 x.1; ⟨a,Int.ofNat_lt.1 (Int.ofNat_sub (Nat.le_of_lt a) ▸ x.2)⟩,fun x=>⟨iT x.1,(Int.ofNat_sub (Nat.le_of_lt x.1)).symm ▸ iT x.2⟩⟩
theorem ecm {c e:Nat} (h:c<e):(c:Int)+1+((e - 1 - c:Nat):Int)=(e:Int):=by
 rw [Nat.sub_sub,Nat.add_comm 1 c]
 exact congrArg Nat.cast (Nat.add_sub_cancel' h)
theorem exl {x c e:Nat} (h:x<e - 1 - c):c+1+x<e:=by
 rw [Nat.sub_sub,Nat.add_comm 1 c] at h
 rw [Nat.add_comm]; exact Nat.add_lt_of_lt_sub h
@[elab_as_elim] theorem rP {α:Sort _}{a b:α}{p:α->Prop} (h:a=b) (x:p b):p a:=h ▸ x
@[elab_as_elim] theorem rQ {α:Sort _}{a b:α}{p:α->Prop} (h:b=a) (x:p b):p a:=h ▸ x
theorem nS {α:Type _}{a:α}{P:Prop} (h:none=some a):P:=nomatch h
theorem sN {α:Type _}{a:α}{P:Prop} (h:some a=none):P:=nomatch h
theorem fT {P:Prop} (h:false=true):P:=nomatch h
theorem tF {P:Prop} (h:true=false):P:=nomatch h
theorem nC {α:Type _}{a:α}{l:List α}{P:Prop} (h:[]=a::l):P:=nomatch h
theorem cN' {α:Type _}{a:α}{l:List α}{P:Prop} (h:a::l=[]):P:=nomatch h
theorem mN {α:Type _}{a:α}{P:Prop} (h:a∈([]:List α)):P:=nomatch h
theorem zS {n:Nat}{P:Prop} (h:0=n+1):P:=nomatch h
theorem sZ {n:Nat}{P:Prop} (h:n+1=0):P:=nomatch h
theorem ex1 {α:Type _}{P:Prop}{a b:α} (h:some a=some b) (k:a=b->P):P:=k (Option.some.inj h)
theorem aL {a b:Bool} (h:(a && b)=true):a=true:=(Bool.and_eq_true_iff.mp h).1
theorem aR {a b:Bool} (h:(a && b)=true):b=true:=(Bool.and_eq_true_iff.mp h).2
theorem gu {c:Prop} [i:Decidable c]{a b:Prop} (h:c->a) (k:¬ c->b):ite c a b:=match i with | .isTrue x=>h x | .isFalse x=>k x
theorem ifT {c:Prop} [i:Decidable c]{a b:Prop} (h:c) (x:a):ite c a b:=gu (fun u_=>x) fun k=>(k h).elim
theorem ifF {c:Prop} [i:Decidable c]{a b:Prop} (h:¬ c) (x:b):ite c a b:=gu (fun k=>(h k).elim) fun u_=>x
end
end Mine.Internal
end
section
open PySem PySem.W PyProof.Rows
namespace Mine.Internal
section
set_option genInjectivity true
set_option tactic.hygienic true
noncomputable abbrev HP:=Addr->Option Obj
noncomputable def HP.le (Z Z':HP):Prop:=∀ a o,Z a=some o->Z' a=some o
theorem HP.le.rfl {Z:HP}:Z.le Z:=fun u_ u_ e=>e
theorem HP.le.trans {Z Z' Z'':HP} (h:Z.le Z') (h':Z'.le Z''):Z.le Z'':=fun a o e=>h' a o (h a o e)
noncomputable def HP.add (Z:HP) (a:Addr) (o:Obj):HP:=fun b=>if b=a then some o else Z b
theorem HP.le_add {Z:HP}{a:Addr}{o:Obj} (h:Z a=none):Z.le (Z.add a o):=fun b o' e=>by
 unfold HP.add
 by_cases q:b=a
 ·rw [q,h] at e; exact nS e
 ·refine rP (aX q) ?_; exact e
theorem HP.sf {Z:HP}{a:Addr}{o:Obj}:Z.add a o a=some o:=aY rfl
set_option genInjectivity false in
structure Cst where
 prog:Program
 w:World
 H0:Heap
 os0:OsState
 mg:Str->Option Value
 mb:Str->Option Value
 K:Frag
 gf:Option (Array GenState)
noncomputable def Cst.gok (c:Cst) (G:Array GenState):Prop:=AllBare G/\∀ G',c.gf=some G'->G=G'
inductive D where
 | none
 | bool (b:Bool)
 | int (i:Int)
 | str (x:Str)
 | val (v:Value)
 | tup (l:List D)
 | lst (l:List D)
 | dic (l:List (Str×D))
 | slc (lo hi st:Option Int)
 | rng (lo hi:Int)
 | its (l:List (Str×D))
 | vws (l:List (Str×D))
 | obj (o:Obj)
 | bm (f:Addr) (self:D)
 | fnc (fd:FuncData)
noncomputable abbrev D.ref (a:Addr):D:=.val (.ref a)
noncomputable abbrev eY (vs:List Value) (n:Nat):Obj:={ cls:=.type "tuple",data:=.seq vs.toArray n }
noncomputable abbrev ci (vs:List Value) (n:Nat):Obj:={ cls:=.type "list",data:=.seq vs.toArray n }
noncomputable abbrev eR (es:List DictEntry) (n:Nat):Obj:={ cls:=.type "dict",data:=.dict es.toArray n }
noncomputable abbrev cw (T:String) (vs:List Value):Obj:={ cls:=.type T,data:=.fields vs.toArray }
mutual
inductive AV (w:World) (Z:HP):Value->D->Prop
 | none:AV w Z .none .none
 | bool {b:Bool}:AV w Z (.bool b) (.bool b)
 | int {i:Int}{t:Tok}:AV w Z (.int i t) (.int i)
 | str {x:Str}{t:Tok}:AV w Z (.str x t) (.str x)
 | val {v:Value}:AV w Z v (.val v)
 | tup {a:Addr}{vs:List Value}{n:Nat}{ds:List D}:Z a=some (eY vs n)->AVs w Z vs ds->AV w Z (.ref a) (.tup ds)
 | lst {a:Addr}{vs:List Value}{n:Nat}{ds:List D}:Z a=some (ci vs n)->AVs w Z vs ds->AV w Z (.ref a) (.lst ds)
 | dic {a:Addr}{es:List DictEntry}{n:Nat}{kvs:List (Str×D)}:Z a=some (eR es n)->AEs w Z es kvs->(kvs.map (·.1)).Nodup->(a == sysModules)=false->AV w Z (.ref a) (.dic kvs)
 | slc {a:Addr}{vl vu vk:Value}{lo hi st:Option Int}:Z a=some (cw "slice" [vl,vu,vk])->IsPart vl lo->IsPart vu hi->IsPart vk st->AV w Z (.ref a) (.slc lo hi st)
 | rng {a:Addr}{lo hi:Int}{t u v:Tok}:Z a=some (cw "range" [.int lo t,.int hi u,.int 1 v])->AV w Z (.ref a) (.rng lo hi)
 | its {a d:Addr}{es:List DictEntry}{n:Nat}{kvs:List (Str×D)}:Z a=some (cw "dict_items" [.ref d])->Z d=some (eR es n)->AEs w Z es kvs->(kvs.map (·.1)).Nodup->AV w Z (.ref a) (.its kvs)
 | vws {a d:Addr}{es:List DictEntry}{n:Nat}{kvs:List (Str×D)}:Z a=some (cw "dict_values" [.ref d])->Z d=some (eR es n)->AEs w Z es kvs->(kvs.map (·.1)).Nodup->AV w Z (.ref a) (.vws kvs)
 | obj {a:Addr}{o:Obj}:Z a=some o->AV w Z (.ref a) (.obj o)
 | bm {a f:Addr}{v:Value}{d:D}:Z a=some (cw "method" [.ref f,v])->AV w Z v d->AV w Z (.ref a) (.bm f d)
 | fnc {a c:Addr}{o oc:Obj}{fd:FuncData}{vs:Array Value}{t:Tok}:Z a=some o->o.data = .func fd->fd.code = .ref c->Z c=some oc->oc.data = .fields vs->vs[1]? = some (.str fd.qualname t)->AV w Z (.ref a) (.fnc fd)
inductive AVs (w:World) (Z:HP):List Value->List D->Prop
 | nil:AVs w Z [] []
 | cons {v:Value}{d:D}{vs:List Value}{ds:List D}:AV w Z v d->AVs w Z vs ds->AVs w Z (v::vs) (d::ds)
inductive AEs (w:World) (Z:HP):List DictEntry->List (Str×D)->Prop
 | nil:AEs w Z [] []
 | cons {k:Str}{t:Tok}{v:Value}{d:D}{es:List DictEntry}{kvs:List (Str×D)}:AV w Z v d->AEs w Z es kvs->AEs w Z (⟨hashStr w k,.str k t,v⟩::es) ((k,d)::kvs)
end
theorem AV.mono {w:World}{Z Z':HP} (h:Z.le Z'){v:Value}{d:D} (x:AV w Z v d):AV w Z' v d:=
 AV.rec (motive_1:=fun v d u_=>AV w Z' v d) (motive_2:=fun v d u_=>AVs w Z' v d) (motive_3:=fun v d u_=>AEs w Z' v d) .none .bool .int .str .val (fun e u_ x=>.tup (h _ _ e) x) (fun e u_ x=>.lst (h _ _ e) x) (fun e u_ n k x=>.dic (h _ _ e) x n k) (fun e a b c=>.slc (h _ _ e) a b c) (fun e=>.rng (h _ _ e)) (fun e f u_ n x=>.its (h _ _ e) (h _ _ f) x n) (fun e f u_ n x=>.vws (h _ _ e) (h _ _ f) x n) (fun e=>.obj (h _ _ e)) (fun e u_ x=>.bm (h _ _ e) x) (fun a b c d e f=>.fnc (h _ _ a) b c (h _ _ d) e f) .nil (fun u_ u_ x y=>.cons x y) .nil (fun u_ u_ x y=>.cons x y) x
theorem AVs.mono {w:World}{Z Z':HP} (h:Z.le Z'){v:List Value}{d:List D} (x:AVs w Z v d):AVs w Z' v d:=
 AVs.rec (motive_1:=fun v d u_=>AV w Z' v d) (motive_2:=fun v d u_=>AVs w Z' v d) (motive_3:=fun v d u_=>AEs w Z' v d) .none .bool .int .str .val (fun e u_ x=>.tup (h _ _ e) x) (fun e u_ x=>.lst (h _ _ e) x) (fun e u_ n k x=>.dic (h _ _ e) x n k) (fun e a b c=>.slc (h _ _ e) a b c) (fun e=>.rng (h _ _ e)) (fun e f u_ n x=>.its (h _ _ e) (h _ _ f) x n) (fun e f u_ n x=>.vws (h _ _ e) (h _ _ f) x n) (fun e=>.obj (h _ _ e)) (fun e u_ x=>.bm (h _ _ e) x) (fun a b c d e f=>.fnc (h _ _ a) b c (h _ _ d) e f) .nil (fun u_ u_ x y=>.cons x y) .nil (fun u_ u_ x y=>.cons x y) x
theorem AEs.mono {w:World}{Z Z':HP} (h:Z.le Z'){v:List DictEntry}{d:List (Str×D)} (x:AEs w Z v d):AEs w Z' v d:=
 AEs.rec (motive_1:=fun v d u_=>AV w Z' v d) (motive_2:=fun v d u_=>AVs w Z' v d) (motive_3:=fun v d u_=>AEs w Z' v d) .none .bool .int .str .val (fun e u_ x=>.tup (h _ _ e) x) (fun e u_ x=>.lst (h _ _ e) x) (fun e u_ n k x=>.dic (h _ _ e) x n k) (fun e a b c=>.slc (h _ _ e) a b c) (fun e=>.rng (h _ _ e)) (fun e f u_ n x=>.its (h _ _ e) (h _ _ f) x n) (fun e f u_ n x=>.vws (h _ _ e) (h _ _ f) x n) (fun e=>.obj (h _ _ e)) (fun e u_ x=>.bm (h _ _ e) x) (fun a b c d e f=>.fnc (h _ _ a) b c (h _ _ d) e f) .nil (fun u_ u_ x y=>.cons x y) .nil (fun u_ u_ x y=>.cons x y) x
noncomputable def AV.I (w:World) (Z:HP) (P:Value->Prop):D->Prop
 | .none=>P .none
 | .bool b=>P (.bool b)
 | .int i=>∀ t,P (.int i t)
 | .str x=>∀ t,P (.str x t)
 | .val u=>P u
 | .tup ds=>∀ a vs n,Z a=some (eY vs n)->AVs w Z vs ds->P (.ref a)
 | .lst ds=>∀ a vs n,Z a=some (ci vs n)->AVs w Z vs ds->P (.ref a)
 | .dic kvs=>∀ a es n,Z a=some (eR es n)->AEs w Z es kvs->(kvs.map (·.1)).Nodup->(a == sysModules)=false->P (.ref a)
 | .slc lo hi st=>∀ a vl vu vk,Z a=some (cw "slice" [vl,vu,vk])->IsPart vl lo->IsPart vu hi->IsPart vk st->P (.ref a)
 | .rng lo hi=>∀ a t u v,Z a=some (cw "range" [.int lo t,.int hi u,.int 1 v])->P (.ref a)
 | .its kvs=>∀ a d es n,Z a=some (cw "dict_items" [.ref d])->Z d=some (eR es n)->AEs w Z es kvs->(kvs.map (·.1)).Nodup->P (.ref a)
 | .vws kvs=>∀ a d es n,Z a=some (cw "dict_values" [.ref d])->Z d=some (eR es n)->AEs w Z es kvs->(kvs.map (·.1)).Nodup->P (.ref a)
 | .obj o=>∀ a,Z a=some o->P (.ref a)
 | .bm f d=>∀ a v,Z a=some (cw "method" [.ref f,v])->AV w Z v d->P (.ref a)
 | .fnc fd=>∀ a c o oc vs t,Z a=some o->o.data = .func fd->fd.code = .ref c->Z c=some oc->oc.data = .fields vs->vs[1]? = some (.str fd.qualname t)->P (.ref a)
section
variable {w:World}{Z:HP}{v:Value}{P:Value->Prop}{L:List Value->Prop}
theorem AV.inv {d:D} (a:AV w Z v d) (h:AV.I w Z P d):P v:=by
 induction a using AV.casesOn with
 | none | bool | val=>exact h
 | int | str=>exact h _
 | tup a b | lst a b=>exact h _ _ _ a b
 | dic a b c d=>exact h _ _ _ a b c d
 | slc a b c d | its a b c d | vws a b c d=>exact h _ _ _ _ a b c d
 | rng a=>exact h _ _ _ _ a
 | obj a=>exact h _ a
 | bm a b=>exact h _ _ a b
 | fnc a b c d e f=>exact h _ _ _ _ _ _ a b c d e f
@[elab_as_elim] theorem AV.int' {i:Int} (a:AV w Z v (.int i)) (h:∀ t,P (.int i t)):P v:=a.inv h
@[elab_as_elim] theorem AV.str' {i:Str} (a:AV w Z v (.str i)) (h:∀ t,P (.str i t)):P v:=a.inv h
@[elab_as_elim] theorem AV.none' (a:AV w Z v .none) (h:P .none):P v:=a.inv h
@[elab_as_elim] theorem AV.val' {u:Value} (a:AV w Z v (.val u)) (h:P u):P v:=a.inv h
@[elab_as_elim] theorem AV.lst' {ds:List D} (a:AV w Z v (.lst ds)) (h:∀ x vs n,Z x=some (ci vs n)->AVs w Z vs ds->P (.ref x)):P v:=a.inv h
@[elab_as_elim] theorem AV.tup' {ds:List D} (a:AV w Z v (.tup ds)) (h:∀ x vs n,Z x=some (eY vs n)->AVs w Z vs ds->P (.ref x)):P v:=a.inv h
@[elab_as_elim] theorem AV.dic' {ds:List (Str×D)} (a:AV w Z v (.dic ds)) (h:∀ x vs n,Z x=some (eR vs n)->AEs w Z vs ds->(ds.map (·.1)).Nodup->(x == sysModules)=false->P (.ref x)):P v:=a.inv h
@[elab_as_elim] theorem AV.bool' {b:Bool} (a:AV w Z v (.bool b)) (h:P (.bool b)):P v:=a.inv h
@[elab_as_elim] theorem AV.obj' {o:Obj} (a:AV w Z v (.obj o)) (h:∀ x,Z x=some o->P (.ref x)):P v:=a.inv h
@[elab_as_elim] theorem AV.bm' {f:Addr}{d:D} (a:AV w Z v (.bm f d)) (h:∀ x u,Z x=some (cw "method" [.ref f,u])->AV w Z u d->P (.ref x)):P v:=a.inv h
@[elab_as_elim] theorem AV.fnc' {fd:FuncData} (a:AV w Z v (.fnc fd)) (h:∀ x c o oc vs t,Z x=some o->o.data = .func fd->fd.code = .ref c->Z c=some oc->oc.data = .fields vs->vs[1]? = some (.str fd.qualname t)->P (.ref x)):P v:=a.inv h
section
variable {i:Int}{x:Str}{b:Bool}{u:Value}{ds:List D}{kvs:List (Str×D)}
theorem AV.eInt {M:(v:Value)->AV w Z v (.int i)->Prop} (int:∀ t,M (.int i t) .int) (a:AV w Z v (.int i)):M v a:=a.inv (P:=fun v=>∀ a,M v a) (fun t u_=>int t) a
theorem AV.eStr {M:(v:Value)->AV w Z v (.str x)->Prop} (str:∀ t,M (.str x t) .str) (a:AV w Z v (.str x)):M v a:=a.inv (P:=fun v=>∀ a,M v a) (fun t u_=>str t) a
theorem AV.eBool {M:(v:Value)->AV w Z v (.bool b)->Prop} (bool:M (.bool b) .bool) (a:AV w Z v (.bool b)):M v a:=a.inv (P:=fun v=>∀ a,M v a) (fun u_=>bool) a
theorem AV.eNone {M:(v:Value)->AV w Z v .none->Prop} (none:M .none .none) (a:AV w Z v .none):M v a:=a.inv (P:=fun v=>∀ a,M v a) (fun u_=>none) a
theorem AV.eVal {M:(v:Value)->AV w Z v (.val u)->Prop} (val:M u .val) (a:AV w Z v (.val u)):M v a:=a.inv (P:=fun v=>∀ a,M v a) (fun u_=>val) a
theorem AV.eTup {M:(v:Value)->AV w Z v (.tup ds)->Prop} (tup:∀ {a vs n} (e:Z a=some (eY vs n)) (b:AVs w Z vs ds),M (.ref a) (.tup e b)) (a:AV w Z v (.tup ds)):M v a:=a.inv (P:=fun v=>∀ a,M v a) (fun u_ u_ u_ e b u_=>tup e b) a
theorem AV.eLst {M:(v:Value)->AV w Z v (.lst ds)->Prop} (lst:∀ {a vs n} (e:Z a=some (ci vs n)) (b:AVs w Z vs ds),M (.ref a) (.lst e b)) (a:AV w Z v (.lst ds)):M v a:=a.inv (P:=fun v=>∀ a,M v a) (fun u_ u_ u_ e b u_=>lst e b) a
theorem AV.eSlc {lo hi st:Option Int}{M:(v:Value)->AV w Z v (.slc lo hi st)->Prop} (slc:∀ {a vl vu vk} (e:Z a=some (cw "slice" [vl,vu,vk])) (p:IsPart vl lo) (q:IsPart vu hi) (r:IsPart vk st),M (.ref a) (.slc e p q r)) (a:AV w Z v (.slc lo hi st)):M v a:=a.inv (P:=fun v=>∀ a,M v a) (fun u_ u_ u_ u_ e b c d u_=>slc e b c d) a
theorem AV.eRng {lo hi:Int}{M:(v:Value)->AV w Z v (.rng lo hi)->Prop} (rng:∀ {a t u v} (e:Z a=some (cw "range" [.int lo t,.int hi u,.int 1 v])),M (.ref a) (.rng e)) (a:AV w Z v (.rng lo hi)):M v a:=a.inv (P:=fun v=>∀ a,M v a) (fun u_ u_ u_ u_ e u_=>rng e) a
theorem AV.eIts {M:(v:Value)->AV w Z v (.its kvs)->Prop} (its:∀ {a d es n} (e:Z a=some (cw "dict_items" [.ref d])) (f:Z d=some (eR es n)) (x:AEs w Z es kvs) (m:(kvs.map (·.1)).Nodup),M (.ref a) (.its e f x m)) (a:AV w Z v (.its kvs)):M v a:=a.inv (P:=fun v=>∀ a,M v a) (fun u_ u_ u_ u_ e b c d u_=>its e b c d) a
theorem AV.eVws {M:(v:Value)->AV w Z v (.vws kvs)->Prop} (vws:∀ {a d es n} (e:Z a=some (cw "dict_values" [.ref d])) (f:Z d=some (eR es n)) (x:AEs w Z es kvs) (m:(kvs.map (·.1)).Nodup),M (.ref a) (.vws e f x m)) (a:AV w Z v (.vws kvs)):M v a:=a.inv (P:=fun v=>∀ a,M v a) (fun u_ u_ u_ u_ e b c d u_=>vws e b c d) a
end
@[elab_as_elim] theorem AVs.nil' {vs:List Value} (a:AVs w Z vs []) (h:L []):L vs:=by cases a; exact h
@[elab_as_elim] theorem AVs.cons' {vs:List Value}{d:D}{ds:List D} (a:AVs w Z vs (d::ds)) (h:∀ v vs,AV w Z v d->AVs w Z vs ds->L (v::vs)):L vs:=by cases a with | cons x y=>exact h _ _ x y
@[elab_as_elim] theorem AVs.one' {vs:List Value}{d:D} (a:AVs w Z vs [d]) (h:∀ v,AV w Z v d->L [v]):L vs:=by
 cases a with
 | cons x y=>cases y; exact h _ x
@[elab_as_elim] theorem AVs.two' {vs:List Value}{d e:D} (a:AVs w Z vs [d,e]) (h:∀ v u,AV w Z v d->AV w Z u e->L [v,u]):L vs:=by
 cases a with
 | cons x y=>exact y.one' (L:=fun vs=>L (_::vs)) fun u z=>h _ u x z
end
theorem AVs.ind {w:World}{Z:HP}{P:List Value->List D->Prop}{vs:List Value}{ds:List D} (h:AVs w Z vs ds) (nil:P [] []) (cons:∀ v d vs ds,AVs w Z vs ds->AV w Z v d->P vs ds->P (v::vs) (d::ds)):P vs ds:=
 AVs.rec (motive_1:=fun u_ u_ u_=>True) (motive_2:=fun v d u_=>P v d) (motive_3:=fun u_ u_ u_=>True) trivial trivial trivial trivial trivial (fun u_ u_ u_=>trivial) (fun u_ u_ u_=>trivial) (fun u_ u_ u_ u_ u_=>trivial) (fun u_ u_ u_ u_=>trivial) (fun u_=>trivial) (fun u_ u_ u_ u_ u_=>trivial) (fun u_ u_ u_ u_ u_=>trivial) (fun u_=>trivial) (fun u_ u_ u_=>trivial) (fun u_ u_ u_ u_ u_ u_=>trivial) nil (fun a b u_ ih=>cons _ _ _ _ b a ih) trivial (fun u_ u_ u_ u_=>trivial) h
theorem AVs.length {w:World}{Z:HP}{v:List Value}{d:List D} (h:AVs w Z v d):v.length=d.length:=
 h.ind (P:=fun v d=>v.length=d.length) rfl fun u_ u_ u_ u_ u_ u_ ih=>congrArg (· + 1) ih
theorem AVs.snoc {w:World}{Z:HP}{vs:List Value}{ds:List D} (h:AVs w Z vs ds){v:Value}{d:D} (x:AV w Z v d):AVs w Z (vs++[v]) (ds++[d]):=
 h.ind (P:=fun vs ds=>AVs w Z (vs++[v]) (ds++[d])) (.cons x .nil) fun u_ u_ u_ u_ u_ a ih=>.cons a ih
theorem AVs.append {w:World}{Z:HP}{vs:List Value}{ds:List D} (h:AVs w Z vs ds){vs':List Value}{ds':List D} (x:AVs w Z vs' ds'):AVs w Z (vs++vs') (ds++ds'):=
 h.ind (P:=fun vs ds=>AVs w Z (vs++vs') (ds++ds')) x fun u_ u_ u_ u_ u_ a ih=>.cons a ih
theorem AVs.get {w:World}{Z:HP}{vs:List Value}{ds:List D} (h:AVs w Z vs ds):∀ {i:Nat}{d:D},ds[i]? = some d->∃ v,vs[i]? = some v/\AV w Z v d:=
 h.ind (P:=fun vs ds=>∀ {i:Nat}{d:D},ds[i]? = some d->∃ v,vs[i]? = some v/\AV w Z v d) (fun e=>nomatch e) fun v _ _ _ _ a ih {i d}=>
  i.casesOn (motive:=fun i=>(_::_)[i]? = some d->∃ v,(_::_)[i]? = some v/\AV w Z v d) (fun e=>⟨v,rfl,Option.some.inj e ▸ a⟩) fun u_ e=>ih e
theorem AVs.eraseIdx {w:World}{Z:HP}{vs:List Value}{ds:List D} (h:AVs w Z vs ds):∀ n:Nat,AVs w Z (vs.eraseIdx n) (ds.eraseIdx n):=
 h.ind (P:=fun vs ds=>∀ n:Nat,AVs w Z (vs.eraseIdx n) (ds.eraseIdx n)) (fun u_=>.nil) fun u_ u_ u_ u_ b a ih n=>n.casesOn (motive:=fun n=>AVs w Z ((_::_).eraseIdx n) ((_::_).eraseIdx n)) b fun n=>.cons a (ih n)
inductive Ch where
 | obj (o:Obj)
 | lst (l:List D)
 | dic (l:List (Str×D))
 | ns (m:List (Str×D))
 | cell (d:Option D)
 | cellA
 | pile (C dx:Addr) (l:List D)
 | it (l:List D)
 | itI (l:List D)
 | itL (l:Addr) (k:Nat)
 | cal (f:D)
 | tab (pos:Pos) (qual:Str)
 | tabG
inductive Ch.On (w:World) (Z:HP):Ch->Obj->Prop
 | obj {o:Obj}:o.isFreed=false->Ch.On w Z (.obj o) o
 | lst {vs:List Value}{n:Nat}{ds:List D}:AVs w Z vs ds->Ch.On w Z (.lst ds) (ci vs n)
 | dic {es:List DictEntry}{n:Nat}{kvs:List (Str×D)}:AEs w Z es kvs->(kvs.map (·.1)).Nodup->Ch.On w Z (.dic kvs) (eR es n)
 | ns {o:Obj}{es:Array DictEntry}{ep:Nat}{mv:Str->Option Value}{m:List (Str×D)}:o.data = .dict es ep->StrKeys es->(∀ x,nsFind es x=mv x)->
   (∀ x d,m.lookup x=some d->∃ v,mv x=some v/\AV w Z v d)->Ch.On w Z (.ns m) o
 | cell0 {o:Obj}:o.data = .cell none->Ch.On w Z (.cell none) o
 | cell {o:Obj}{v:Value}{d:D}:o.data = .cell (some v)->AV w Z v d->Ch.On w Z (.cell (some d)) o
 | cellA {o:Obj}{v:Option Value}:o.data = .cell v->Ch.On w Z .cellA o
 | pile {C dx:Addr}{vs:List Value}{n:Nat}{ds:List D}:AVs w Z vs ds->Ch.On w Z (.pile C dx ds) { cls:=.ref C,dict:=some dx,data:=.seq vs.toArray n }
 | itLst {o:Obj}{l:Addr}{k n:Nat}{vs:List Value}{ds:List D}:o.cls = .type "list_iterator"->o.data = .fields #[.ref l,.int k 0]->Z l=some (ci vs n)->AVs w Z vs ds->Ch.On w Z (.it (ds.drop k)) o
 | itTup {o:Obj}{l:Addr}{k n:Nat}{vs:List Value}{ds:List D}:o.cls = .type "tuple_iterator"->o.data = .fields #[.ref l,.int k 0]->Z l=some (eY vs n)->AVs w Z vs ds->Ch.On w Z (.it (ds.drop k)) o
 | itRng {x left:Int}:Ch.On w Z (.it ((List.range left.toNat).map fun j:Nat=>.int (x+(j:Int)))) (cw "range_iterator" [rawInt x,rawInt left,rawInt 1])
 | itStrA {o:Obj}{x:Str}{t:Tok}{k:Nat}:o.cls = .type "str_ascii_iterator"->o.data = .fields #[.str x t,.int k 0]->Ch.On w Z (.it ((x.cps.toList.drop k).map fun c=>.str ⟨#[c]⟩)) o
 | itStrW {o:Obj}{x:Str}{t:Tok}{k:Nat}:o.cls = .type "str_iterator"->o.data = .fields #[.str x t,.int k 0]->Ch.On w Z (.it ((x.cps.toList.drop k).map fun c=>.str ⟨#[c]⟩)) o
 | itIts {d:Addr}{es:List DictEntry}{n k:Nat}{kvs:List (Str×D)}{ok ov:Value}:Z d=some (eR es n)->AEs w Z es kvs->(kvs.map (·.1)).Nodup->
   Ch.On w Z (.itI ((kvs.drop k).map fun p=>.tup [.str p.1,p.2])) (cw "dict_itemiterator" [.none,.bool false,.ref d,.int k 0,.int kvs.length 0,.int n 0,ok,ov])
 | itVws {o:Obj}{d:Addr}{es:List DictEntry}{n k:Nat}{kvs:List (Str×D)}:o.cls = .type "dict_valueiterator"->o.data = .fields #[.ref d,.int k 0,.int kvs.length 0,.int n 0]->Z d=some (eR es n)->AEs w Z es kvs->(kvs.map (·.1)).Nodup->
   Ch.On w Z (.it ((kvs.drop k).map fun p=>p.2)) o
 | itL {o:Obj}{l:Addr}{k:Nat}:o.cls = .type "list_iterator"->o.data = .fields #[.ref l,.int k 0]->Ch.On w Z (.itL l k) o
 | cal {v:Value}{t:Tok}{d:D}:AV w Z v d->Ch.On w Z (.cal d) (cw "callable_iterator" [v,.str ⟨#[]⟩ t,.bool false])
 | tab {pos:Pos}{qual:Str}{ps:Array Value}:TriplesOk ps.toList->(codeAmong pos ps.toList=none\/∃ c o vs t,codeAmong pos ps.toList=some (.ref c)/\Z c=some o/\o.data = .fields vs/\vs[1]? = some (.str qual t))->Ch.On w Z (.tab pos qual) (tabObj ps)
 | tabG {ps:Array Value}:TriplesOk ps.toList->Ch.On w Z .tabG (tabObj ps)
noncomputable def Ch.On.I (w:World) (Z:HP) (P:Obj->Prop):Ch->Prop
 | .obj o=>P o
 | .lst ds=>∀ vs n,AVs w Z vs ds->P (ci vs n)
 | .dic kvs=>∀ es n,AEs w Z es kvs->(kvs.map (·.1)).Nodup->P (eR es n)
 | .ns m=>∀ (o:Obj) (es:Array DictEntry) (ep:Nat) (mv:Str->Option Value),o.data = .dict es ep->StrKeys es->(∀ x,nsFind es x=mv x)->(∀ x d,m.lookup x=some d->∃ v,mv x=some v/\AV w Z v d)->P o
 | .cell d=>∀ o v,o.data = .cell v->(∀ e,d=some e->∃ u,v=some u/\AV w Z u e)->P o
 | .cellA=>∀ o v,o.data = .cell v->P o
 | .pile C dx ds=>∀ vs n,AVs w Z vs ds->P { cls:=.ref C,dict:=some dx,data:=.seq vs.toArray n }
 | .it _ | .itI _=>False
 | .itL l k=>∀ o,o.cls = .type "list_iterator"->o.data = .fields #[.ref l,.int k 0]->P o
 | .cal d=>∀ v t,AV w Z v d->P (cw "callable_iterator" [v,.str ⟨#[]⟩ t,.bool false])
 | .tab pos qual=>∀ ps:Array Value,TriplesOk ps.toList->(codeAmong pos ps.toList=none\/∃ c o vs t,codeAmong pos ps.toList=some (.ref c)/\Z c=some o/\o.data = .fields vs/\vs[1]? = some (.str qual t))->P (tabObj ps)
 | .tabG=>∀ ps:Array Value,TriplesOk ps.toList->P (tabObj ps)
section
variable {w:World}{Z:HP}{o:Obj}
theorem Ch.On.inv {P:Obj->Prop}{x:Ch} (a:Ch.On w Z x o) (h:Ch.On.I w Z P x):P o:=by
 induction a with
 | obj=>exact h
 | lst a | pile a | cal a=>exact h _ _ a
 | dic a b=>exact h _ _ a b
 | ns a b c d=>exact h _ _ _ _ a b c d
 | cell0 a=>exact h _ _ a fun u_ e=>nomatch e
 | cell a b=>exact h _ _ a fun u_ e=>⟨_,rfl,Option.some.inj e ▸ b⟩
 | cellA a=>exact h _ _ a
 | itL a b=>exact h _ a b
 | tab a b=>exact h _ a b
 | tabG a=>exact h _ a
 | _=>exact h.elim
variable {ds:List D}{kvs:List (Str×D)}
theorem Ch.On.eObj {p:Obj}{M:(o:Obj)->Ch.On w Z (.obj p) o->Prop} (obj:∀ x,M p x) (a:Ch.On w Z (.obj p) o):M o a:=a.inv (P:=fun o=>∀ a,M o a) obj a
theorem Ch.On.eLst {M:(o:Obj)->Ch.On w Z (.lst ds) o->Prop} (lst:∀ {vs n} (x:AVs w Z vs ds),M (ci vs n) (.lst x)) (a:Ch.On w Z (.lst ds) o):M o a:=a.inv (P:=fun o=>∀ a,M o a) (fun u_ u_ x u_=>lst x) a
theorem Ch.On.eDic {M:(o:Obj)->Ch.On w Z (.dic kvs) o->Prop} (dic:∀ {es n} (x:AEs w Z es kvs) (y:(kvs.map (·.1)).Nodup),M (eR es n) (.dic x y)) (a:Ch.On w Z (.dic kvs) o):M o a:=a.inv (P:=fun o=>∀ a,M o a) (fun u_ u_ x y u_=>dic x y) a
theorem Ch.On.eNs {m:List (Str×D)}{M:(o:Obj)->Ch.On w Z (.ns m) o->Prop} (ns:∀ {o es ep}{mv:Str->Option Value} (p:o.data = .dict es ep) (q:StrKeys es) (r:∀ x,nsFind es x=mv x) (t:∀ x d,m.lookup x=some d->∃ v,mv x=some v/\AV w Z v d),M o (.ns p q r t)) (a:Ch.On w Z (.ns m) o):M o a:=a.inv (P:=fun o=>∀ a,M o a) (fun u_ u_ u_ u_ p q r t u_=>ns p q r t) a
theorem Ch.On.ePile {C dx:Addr}{M:(o:Obj)->Ch.On w Z (.pile C dx ds) o->Prop} (pile:∀ {vs n} (x:AVs w Z vs ds),M { cls:=.ref C,dict:=some dx,data:=.seq vs.toArray n } (.pile x)) (a:Ch.On w Z (.pile C dx ds) o):M o a:=a.inv (P:=fun o=>∀ a,M o a) (fun u_ u_ x u_=>pile x) a
theorem Ch.On.eItL {l:Addr}{k:Nat}{M:(o:Obj)->Ch.On w Z (.itL l k) o->Prop} (itL:∀ {o} (x:o.cls = .type "list_iterator") (y:o.data = .fields #[.ref l,.int k 0]),M o (.itL x y)) (a:Ch.On w Z (.itL l k) o):M o a:=a.inv (P:=fun o=>∀ a,M o a) (fun u_ x y u_=>itL x y) a
theorem Ch.On.eCal {d:D}{M:(o:Obj)->Ch.On w Z (.cal d) o->Prop} (cal:∀ {v t} (x:AV w Z v d),M (cw "callable_iterator" [v,.str ⟨#[]⟩ t,.bool false]) (.cal x)) (a:Ch.On w Z (.cal d) o):M o a:=a.inv (P:=fun o=>∀ a,M o a) (fun u_ u_ x u_=>cal x) a
theorem Ch.On.eTab {pos:Pos}{qual:Str}{M:(o:Obj)->Ch.On w Z (.tab pos qual) o->Prop} (tab:∀ {ps:Array Value} (x:TriplesOk ps.toList) (y:codeAmong pos ps.toList=none\/∃ c o vs t,codeAmong pos ps.toList=some (.ref c)/\Z c=some o/\o.data = .fields vs/\vs[1]? = some (.str qual t)),M (tabObj ps) (.tab x y)) (a:Ch.On w Z (.tab pos qual) o):M o a:=a.inv (P:=fun o=>∀ a,M o a) (fun u_ x y u_=>tab x y) a
theorem Ch.On.eTabG {M:(o:Obj)->Ch.On w Z .tabG o->Prop} (tabG:∀ {ps:Array Value} (x:TriplesOk ps.toList),M (tabObj ps) (.tabG x)) (a:Ch.On w Z .tabG o):M o a:=a.inv (P:=fun o=>∀ a,M o a) (fun u_ x u_=>tabG x) a
end
theorem Ch.On.mono {w:World}{Z Z':HP} (h:Z.le Z'){c:Ch}{o:Obj} (x:Ch.On w Z c o):Ch.On w Z' c o:=by
 induction x with
 | obj f=>exact .obj f
 | lst a=>exact .lst (a.mono h)
 | dic a n=>exact .dic (a.mono h) n
 | ns a b c d=>exact .ns a b c fun x y e=>let ⟨v,h1,h2⟩:=d x y e; ⟨v,h1,h2.mono h⟩
 | cell0 a=>exact .cell0 a
 | cell a b=>exact .cell a (b.mono h)
 | cellA a=>exact .cellA a
 | pile a=>exact .pile (a.mono h)
 | itLst a b c d=>exact .itLst a b (h _ _ c) (d.mono h)
 | itTup a b c d=>exact .itTup a b (h _ _ c) (d.mono h)
 | itRng=>exact .itRng
 | itStrA a b=>exact .itStrA a b
 | itStrW a b=>exact .itStrW a b
 | itIts a b c=>exact .itIts (h _ _ a) (b.mono h) c
 | itVws a b c d e=>exact .itVws a b (h _ _ c) (d.mono h) e
 | itL a b=>exact .itL a b
 | cal a=>exact .cal (a.mono h)
 | tab a b=>exact .tab a (b.imp_right (Exists.imp fun u_=>Exists.imp fun u_=>Exists.imp fun u_=>Exists.imp fun u_=>And.imp_right (And.imp_left (h _ _))))
 | tabG a=>exact .tabG a
theorem fm {o:Obj}{d:Data} (h:o.data=d) (k:∀ a b c,(Obj.mk a b d c).isFreed=false):o.isFreed=false:=by
 obtain ⟨_,_,_,_⟩:=o; subst h; exact k _ _ _
theorem Ch.On.live {w:World}{Z:HP}{c:Ch}{o:Obj} (x:Ch.On w Z c o):o.isFreed=false:=by
 induction x with
 | obj f=>exact f
 | lst | dic | pile | itRng | itIts | cal | tab=>rfl
 | itLst _ a | itTup _ a | itStrA _ a | itStrW _ a | itVws _ a | itL _ a=>exact fm a fun u_ u_ u_=>rfl
 | ns a=>exact fm a fun u_ u_ u_=>rfl
 | cell0 a=>exact fm a fun u_ u_ u_=>rfl
 | cell a=>exact fm a fun u_ u_ u_=>rfl
 | cellA a=>exact fm a fun u_ u_ u_=>rfl
 | tabG _=>rfl
noncomputable abbrev Led:=List (Addr×Ch)
structure R (c:Cst) (Z:HP) (led:Led) (s:Shared):Prop where
 base:∀ a o,c.H0.get? a=some o->Z a=some o
 zin:∀ a o,Z a=some o->s.heap.get? a=some o
 on:∀ p∈led,∃ o,s.heap.get? p.1=some o/\p.2.On c.w Z o
 dis:∀ p∈led,Z p.1=none
 nod:(led.map (·.1)).Nodup
 gens:c.gok s.gens
 os:s.os=c.os0
inductive Take:Led->Addr->Ch->Led->Prop
 | h {a:Addr}{x:Ch}{l:Led}:Take ((a,x)::l) a x l
 | t {p:Addr×Ch}{a:Addr}{x:Ch}{l l':Led}:Take l a x l'->Take (p::l) a x (p::l')
inductive At:Led->Addr->Ch->Prop
 | h {a:Addr}{x:Ch}{l:Led}:At ((a,x)::l) a x
 | t {p:Addr×Ch}{a:Addr}{x:Ch}{l:Led}:At l a x->At (p::l) a x
inductive Up:Led->Addr->Ch->Ch->Led->Prop
 | h {a:Addr}{x y:Ch}{l:Led}:Up ((a,x)::l) a x y ((a,y)::l)
 | t {p:Addr×Ch}{a:Addr}{x y:Ch}{l l':Led}:Up l a x y l'->Up (p::l) a x y (p::l')
theorem At.mem {l:Led}{a:Addr}{x:Ch} (h:At l a x):(a,x)∈l:=h.rec (.head _) fun u_ ih=>.tail _ ih
theorem Up.at {l l':Led}{a:Addr}{x y:Ch} (h:Up l a x y l'):At l a x:=h.rec .h fun u_ ih=>.t ih
theorem Up.keys {l l':Led}{a:Addr}{x y:Ch} (h:Up l a x y l'):l'.map (·.1)=l.map (·.1):=h.rec rfl fun u_ ih=>congrArg (List.cons (Prod.fst _)) ih
theorem Up.new {l l':Led}{a:Addr}{x y:Ch} (h:Up l a x y l') (hn:(l.map (·.1)).Nodup):∀ p∈l',p=(a,y)\/(p∈l/\p.1≠a):=by
 induction h with
 | h=>
  intro p hp
  rcases List.mem_cons.mp hp with e | hp
  ·exact .inl e
  ·exact .inr ⟨.tail _ hp,fun e=>(List.nodup_cons.mp hn).1 (List.mem_map.mpr ⟨p,hp,e⟩)⟩
 | t h ih=>
  intro p hp
  rcases List.mem_cons.mp hp with e | hp
  ·exact .inr ⟨e ▸ .head _,fun q=>(List.nodup_cons.mp hn).1 (by refine rQ e ?_; show p.1∈_; refine rP q ?_; exact bc (f:=(·.1)) h.at.mem)⟩
  ·exact (ih (List.nodup_cons.mp hn).2 p hp).imp_right fun e=>⟨.tail _ e.1,e.2⟩
theorem Take.at {l l':Led}{a:Addr}{x:Ch} (h:Take l a x l'):At l a x:=h.rec .h fun u_ ih=>.t ih
theorem Take.sub {l l':Led}{a:Addr}{x:Ch} (h:Take l a x l'):l'.Sublist l:=h.rec (.cons _ (List.Sublist.refl _)) fun u_ ih=>.cons_cons _ ih
theorem Take.ne {l l':Led}{a:Addr}{x:Ch} (h:Take l a x l') (hn:(l.map (·.1)).Nodup):∀ p∈l',p.1≠a:=by
 induction h with
 | h=>exact fun p hp e=>(List.nodup_cons.mp hn).1 (List.mem_map.mpr ⟨p,hp,e⟩)
 | t h ih=>
  intro p hp
  rcases List.mem_cons.mp hp with e | hp
  ·exact fun q=>(List.nodup_cons.mp hn).1 (by refine rQ e ?_; show p.1∈_; refine rP q ?_; exact bc (f:=(·.1)) h.at.mem)
  ·exact ih (List.nodup_cons.mp hn).2 p hp
section
variable {c:Cst}{Z:HP}{led led':Led}{s:Shared}{a:Addr}{x y:Ch}
namespace R
theorem at_ (r:R c Z led s) (h:At led a x):∃ o,s.heap.get? a=some o/\x.On c.w Z o:=r.on _ h.mem
theorem toks (r:R c Z led s) (t:Tok):R c Z led { s with toks:=t }:=⟨r.base,r.zin,r.on,r.dis,r.nod,r.gens,r.os⟩
theorem grow (r:R c Z led s){h':Heap} (t:Tok) (k:∀ b o,s.heap.get? b=some o->h'.get? b=some o):R c Z led { s with heap:=h',toks:=t }:=
 ⟨r.base,fun a o e=>k _ _ (r.zin a o e),fun p hp=>let ⟨o,h1,h2⟩:=r.on p hp; ⟨o,k _ _ h1,h2⟩,r.dis,r.nod,r.gens,r.os⟩
theorem fresh (r:R c Z led s):Z s.heap.objs.size=none:=by
 cases h:Z s.heap.objs.size with
 | none=>rfl
 | some o=>exact absurd (br (r.zin _ _ h)) (Nat.lt_irrefl _)
theorem away (r:R c Z led s) (h:s.heap.get? a=none):Z a=none:=by
 cases e:Z a with
 | none=>rfl
 | some o=>rw [r.zin _ _ e] at h; exact sN h
theorem awayL (r:R c Z led s) (h:s.heap.get? a=none):a ∉ led.map (·.1):=fun q=>by
 obtain ⟨p,hp,e⟩:=List.mem_map.mp q
 obtain ⟨o,h1,_⟩:=r.on p hp
 rw [e,h] at h1; exact nS h1
theorem none_of_ge {h:Heap}{a:Addr} (e:h.objs.size<=a):h.get? a=none:=by
 cases q:h.get? a with
 | none=>rfl
 | some o=>exact absurd (br q) (Nat.not_lt.mpr e)
theorem new (r:R c Z led s){h':Heap}{o:Obj}{t:Tok} (hn:s.heap.get? a=none) (k:∀ b o,s.heap.get? b=some o->h'.get? b=some o)
  (ho:h'.get? a=some o) (hx:x.On c.w Z o):R c Z ((a,x)::led) { s with heap:=h',toks:=t }:=
 ⟨r.base,fun a o e=>k _ _ (r.zin a o e),fun p hp=>by
  rcases List.mem_cons.mp hp with rfl | hp
  ·exact ⟨o,ho,hx⟩
  ·obtain ⟨o,h1,h2⟩:=r.on p hp; exact ⟨o,k _ _ h1,h2⟩,fun p hp=>by
  rcases List.mem_cons.mp hp with rfl | hp
  ·exact r.away hn
  ·exact r.dis p hp,by refine rP aA (rP (propext (List.nodup_cons)) ?_); exact ⟨r.awayL hn,r.nod⟩,r.gens,r.os⟩
theorem push (r:R c Z led s){o:Obj} (hx:x.On c.w Z o):R c Z ((s.heap.objs.size,x)::led) { s with heap:=s.heap.push o }:=
 r.new (t:=s.toks) (none_of_ge (aC _)) (fun u_ u_ e=>aT _ e) (bj _ hx.live) hx
theorem newZ (r:R c Z led s){h':Heap}{o:Obj}{t:Tok} (hn:s.heap.get? a=none) (k:∀ b o,s.heap.get? b=some o->h'.get? b=some o)
  (ho:h'.get? a=some o):Z.le (Z.add a o)/\R c (Z.add a o) led { s with heap:=h',toks:=t }:=by
 have hz:Z.le (Z.add a o):=HP.le_add (r.away hn)
 refine ⟨hz,⟨fun b o e=>hz _ _ (r.base b o e),fun b o' e=>?_,fun p hp=>?_,fun p hp=>?_,r.nod,r.gens,r.os⟩⟩
 ·unfold HP.add at e
  split at e
  ·rename_i q; subst q; cases e; exact ho
  ·exact k _ _ (r.zin b o' e)
 ·obtain ⟨o,h1,h2⟩:=r.on p hp
  exact ⟨o,k _ _ h1,h2.mono hz⟩
 ·unfold HP.add
  refine rP (aX fun q=>r.awayL hn (by rw [<- q]; exact bc hp)) ?_
  exact r.dis p hp
theorem pushZ (r:R c Z led s){o:Obj} (hf:o.isFreed=false):Z.le (Z.add s.heap.objs.size o)/\R c (Z.add s.heap.objs.size o) led { s with heap:=s.heap.push o }:=
 r.newZ (t:=s.toks) (none_of_ge (aC _)) (fun u_ u_ e=>aT _ e) (bj _ hf)
theorem turnX (r:R c Z led s) (u:Up led a x y led'){h':Heap}{o:Obj}{t:Tok} (hs:Heap.ExtBut a s.heap h') (ho:h'.get? a=some o) (hx:y.On c.w Z o):R c Z led' { s with heap:=h',toks:=t }:=by
 have za:=r.dis _ u.at.mem
 refine ⟨r.base,fun b o e=>hs b o (fun q=>by rw [q,za] at e; exact nS e) (r.zin b o e),fun p hp=>?_,fun p hp=>?_,by refine rP u.keys ?_; exact r.nod,r.gens,r.os⟩
 ·rcases u.new r.nod p hp with rfl | ⟨h1,h2⟩
  ·exact ⟨o,ho,hx⟩
  ·obtain ⟨o,h3,h4⟩:=r.on p h1
   exact ⟨o,hs _ _ h2 h3,h4⟩
 ·rcases u.new r.nod p hp with rfl | ⟨h1,_⟩
  ·exact za
  ·exact r.dis p h1
theorem turn (r:R c Z led s) (u:Up led a x y led'){h':Heap}{o:Obj}{t:Tok} (hs:Heap.SameBut a s.heap h') (ho:h'.get? a=some o) (hx:y.On c.w Z o):R c Z led' { s with heap:=h',toks:=t }:=
 r.turnX u hs.extBut ho hx
theorem addZ (r:R c Z led s){o:Obj} (h1:s.heap.get? a=some o) (h2:Z a=none) (h3:a ∉ led.map (·.1)):Z.le (Z.add a o)/\R c (Z.add a o) led s:=by
 have hz:Z.le (Z.add a o):=HP.le_add h2
 refine ⟨hz,fun b o e=>hz _ _ (r.base b o e),fun b o' e=>?_,fun p hp=>?_,fun p hp=>?_,r.nod,r.gens,r.os⟩
 ·unfold HP.add at e
  split at e
  ·rename_i q; subst q; cases e; exact h1
  ·exact r.zin b o' e
 ·obtain ⟨o,h1,h2⟩:=r.on p hp
  exact ⟨o,h1,h2.mono hz⟩
 ·unfold HP.add
  refine rP (aX fun q=>h3 (List.mem_map.mpr ⟨p,hp,q⟩)) ?_
  exact r.dis p hp
theorem lose (r:R c Z led s) (u:Take led a x led'){h':Heap}{t:Tok} (hx:Heap.ExtBut a s.heap h'):R c Z led' { s with heap:=h',toks:=t }:=by
 have za:=r.dis _ u.at.mem
 refine ⟨r.base,fun b o e=>hx b o (fun q=>by rw [q,za] at e; exact nS e) (r.zin b o e),fun p hp=>?_,fun p hp=>r.dis p (u.sub.subset hp),(u.sub.map _).nodup r.nod,r.gens,r.os⟩
 obtain ⟨o,h1,h2⟩:=r.on p (u.sub.subset hp)
 exact ⟨o,hx _ _ (u.ne r.nod p hp) h1,h2⟩
theorem freeze (r:R c Z led s) (u:Take led a x led'):∃ o,x.On c.w Z o/\Z.le (Z.add a o)/\R c (Z.add a o) led' s:=by
 obtain ⟨o,h1,h2⟩:=r.at_ u.at
 have za:=r.dis _ u.at.mem
 have hz:Z.le (Z.add a o):=HP.le_add za
 refine ⟨o,h2,hz,fun b o e=>hz _ _ (r.base b o e),fun b o' e=>?_,fun p hp=>?_,fun p hp=>?_,((u.sub.map _).nodup r.nod),r.gens,r.os⟩
 ·unfold HP.add at e
  split at e
  ·rename_i q; subst q; cases e; exact h1
  ·exact r.zin b o' e
 ·obtain ⟨o,h1,h2⟩:=r.on p (u.sub.subset hp)
  exact ⟨o,h1,h2.mono hz⟩
 ·unfold HP.add
  refine rP (aX (u.ne r.nod p hp)) ?_
  exact r.dis p (u.sub.subset hp)
end R
inductive Ch.Le:Ch->Ch->Prop
 | rfl {x:Ch}:Ch.Le x x
 | ns {m m':List (Str×D)}:(∀ x d,m'.lookup x=some d->m.lookup x=some d)->Ch.Le (.ns m) (.ns m')
 | cell {d:Option D}:Ch.Le (.cell d) .cellA
theorem Ch.Le.ns0 {m:List (Str×D)}:Ch.Le (.ns m) (.ns []):=.ns fun u_ u_ e=>by simp at e
theorem Ch.On.less {w:World}{Z:HP}{x y:Ch}{o:Obj} (h:Ch.Le x y) (a:Ch.On w Z x o):Ch.On w Z y o:=by
 induction h with
 | rfl=>exact a
 | ns h=>
  induction a using Ch.On.eNs with
  | ns a b c d=>exact .ns a b c fun x y e=>d x y (h x y e)
 | cell=>exact a.inv fun u_ u_ e u_=>.cellA e
inductive Weak:Led->Led->Prop
 | nil {l:Led}:Weak l []
 | rest {l:Led}:Weak l l
 | drop {l l':Led}{p:Addr×Ch}:Weak l l'->Weak (p::l) l'
 | take {l l₁ l':Led}{a:Addr}{x y:Ch}:Take l a x l₁->Ch.Le x y->Weak l₁ l'->Weak l ((a,y)::l')
theorem Weak.cons {l l₁ l':Led}{a:Addr}{x:Ch} (t:Take l a x l₁) (w:Weak l₁ l'):Weak l ((a,x)::l'):=.take t .rfl w
theorem Weak.le {l l':Led}{a:Addr}{x y:Ch} (h:Ch.Le x y) (w:Weak l l'):Weak ((a,x)::l) ((a,y)::l'):=.take .h h w
theorem R.take (r:R c Z led s) (u:Take led a x led'):R c Z led' s:=
 ⟨r.base,r.zin,fun p hp=>r.on p (u.sub.subset hp),fun p hp=>r.dis p (u.sub.subset hp),(u.sub.map _).nodup r.nod,r.gens,r.os⟩
theorem R.put (r:R c Z led' s){o:Obj} (h1:s.heap.get? a=some o) (h2:x.On c.w Z o) (h3:Z a=none) (h4:a ∉ led'.map (·.1)):R c Z ((a,x)::led') s:=
 ⟨r.base,r.zin,fun p hp=>by
  rcases List.mem_cons.mp hp with rfl | hp
  ·exact ⟨o,h1,h2⟩
  ·exact r.on p hp,fun p hp=>by
  rcases List.mem_cons.mp hp with rfl | hp
  ·exact h3
  ·exact r.dis p hp,by refine rP aA (rP (propext (List.nodup_cons)) ?_); exact ⟨h4,r.nod⟩,r.gens,r.os⟩
theorem Take.mem_of_sub {l l':Led} (w:Weak l l') (b:Addr):b∈l'.map (·.1)->b∈l.map (·.1):=
 w.rec (motive:=fun l l' u_=>b∈l'.map (·.1)->b∈l.map (·.1)) (fun h=>nomatch h) (fun h=>h) (fun u_ ih h=>.tail _ (ih h)) fun t u_ u_ ih h=>by
  rcases List.mem_cons.mp h with e | h
  ·exact e ▸ bc (f:=(·.1)) t.at.mem
  ·exact (t.sub.map _).subset (ih h)
theorem R.weak (r:R c Z led s) (w:Weak led led'):R c Z led' s:=by
 induction w with
 | nil=>exact ⟨r.base,r.zin,fun u_ h=>(nomatch h),fun u_ h=>(nomatch h),List.nodup_nil,r.gens,r.os⟩
 | rest=>exact r
 | drop w ih=>exact ih (r.take .h)
 | take t k w ih=>
  obtain ⟨o,h1,h2⟩:=r.at_ t.at
  refine R.put (ih (r.take t)) h1 (h2.less k) (r.dis _ t.at.mem) fun q=>?_
  obtain ⟨p,hp,e⟩:=List.mem_map.mp (Take.mem_of_sub w _ q)
  exact t.ne r.nod p hp e
theorem Take.app (f:Led){l l':Led}{a:Addr}{x:Ch} (h:Take l a x l'):Take (f++l) a x (f++l'):=f.rec h fun u_ u_ ih=>.t ih
theorem At.app (f:Led){l:Led}{a:Addr}{x:Ch} (h:At l a x):At (f++l) a x:=f.rec h fun u_ u_ ih=>.t ih
theorem Up.app (f:Led){l l':Led}{a:Addr}{x y:Ch} (h:Up l a x y l'):Up (f++l) a x y (f++l'):=f.rec h fun u_ u_ ih=>.t ih
end
end
section
theorem mC {M:Model}{A:Around}{E:Value->Shared->Prop}{s:Shared}{vs keep:List Value}{Q:Unit->Shared->Prop} (h:Q () s):wpAny M A (release vs keep) Q E s:=fun Γ p u_=>by
 refine rP (Sem.wp_release _ _ _ _ _ _ _ _) ?_; exact h
theorem mD {M:Model}{A:Around}{E:Value->Shared->Prop}{s:Shared}{vs:List Value}{t:Sem Value}{Q:Value->Shared->Prop} (h:wpAny M A t Q E s):wpAny M A (operate vs t) Q E s:=fun Γ p hΓ=>by
 refine rP (Sem.wp_operate _ _ _ _ _ _ _ _) ?_; exact h Γ p hΓ
noncomputable abbrev Cst.M (c:Cst):Model:=model c.prog c.w
noncomputable def noE:Value->Shared->Prop:=fun u_ u_=>False
inductive P1 (c:Cst) (Z:HP) (Q:D->Led->Prop) (v:Value) (s:Shared):Prop
 | mk (Z':HP) (led':Led) (d:D):Z.le Z'->R c Z' led' s->AV c.w Z' v d->Q d led'->P1 c Z Q v s
inductive PB (c:Cst) (Z:HP) (Q:Bool->Led->Prop) (b:Bool) (s:Shared):Prop
 | mk (Z':HP) (led':Led):Z.le Z'->R c Z' led' s->Q b led'->PB c Z Q b s
inductive PU (c:Cst) (Z:HP) (Q:Led->Prop) (u:Unit) (s:Shared):Prop
 | mk (Z':HP) (led':Led):Z.le Z'->R c Z' led' s->Q led'->PU c Z Q u s
inductive PL (c:Cst) (Z:HP) (Q:List D->Led->Prop) (v:List Value) (s:Shared):Prop
 | mk (Z':HP) (led':Led) (d:List D):Z.le Z'->R c Z' led' s->AVs c.w Z' v d->Q d led'->PL c Z Q v s
set_option genCtorIdx true in
inductive Fl where
 | next | brk | cont | ret (d:D)
inductive FlR (w:World) (Z:HP):Flow->Fl->Prop
 | next:FlR w Z .next .next
 | brk:FlR w Z .brk .brk
 | cont:FlR w Z .cont .cont
 | ret {v:Value}{d:D}:AV w Z v d->FlR w Z (.ret v) (.ret d)
inductive PF (c:Cst) (Z:HP) (Q:Fl->Led->Prop) (v:Flow) (s:Shared):Prop
 | mk (Z':HP) (led':Led) (d:Fl):Z.le Z'->R c Z' led' s->FlR c.w Z' v d->Q d led'->PF c Z Q v s
noncomputable def Ev (c:Cst) (A:Around) (env:Env) (e:Expr) (led:Led) (Q:D->Led->Prop):Prop:=
 ∀ Z s,R c Z led s->wpAny c.M A (eval e env) (P1 c Z Q) noE s
noncomputable def Evs (c:Cst) (A:Around) (env:Env) (pos:Pos) (es:List Expr) (led:Led) (Q:List D->Led->Prop):Prop:=
 ∀ Z s,R c Z led s->wpAny c.M A (spliced (backTo pos (starEach es env))) (PL c Z Q) noE s
noncomputable def Tst (c:Cst) (A:Around) (env:Env) (e:Expr) (led:Led) (Q:Bool->Led->Prop):Prop:=
 ∀ Z s,R c Z led s->wpAny c.M A (isTrue e env (eval e env)) (PB c Z Q) noE s
noncomputable def Tall (c:Cst) (A:Around) (env:Env) (op:BoolOp) (es:List Expr) (led:Led) (Q:Bool->Led->Prop):Prop:=
 ∀ Z s,R c Z led s->wpAny c.M A (allTrue op es env) (PB c Z Q) noE s
noncomputable def Ex (c:Cst) (A:Around) (env:Env) (st:Stmt) (led:Led) (Q:Fl->Led->Prop):Prop:=
 ∀ Z s,R c Z led s->wpAny c.M A (exec st env) (PF c Z Q) noE s
noncomputable def Exs (c:Cst) (A:Around) (env:Env) (st:List Stmt) (led:Led) (Q:Fl->Led->Prop):Prop:=
 ∀ Z s,R c Z led s->wpAny c.M A (execs st env) (PF c Z Q) noE s
noncomputable def Asg (c:Cst) (A:Around) (env:Env) (t:Expr) (d:D) (led:Led) (Q:Led->Prop):Prop:=
 ∀ Z s v,R c Z led s->AV c.w Z v d->wpAny c.M A (assign t env v) (PU c Z Q) noE s
noncomputable def Bin (c:Cst) (A:Around) (op:Operator) (a b:D) (led:Led) (Q:D->Led->Prop):Prop:=
 ∀ Z s v u,R c Z led s->AV c.w Z v a->AV c.w Z u b->wpAny c.M A (binaryOp op v u) (P1 c Z Q) noE s
noncomputable def Inp (c:Cst) (A:Around) (op:Operator) (a b:D) (led:Led) (Q:D->Led->Prop):Prop:=
 ∀ Z s v u,R c Z led s->AV c.w Z v a->AV c.w Z u b->wpAny c.M A (inplaceOp op v u) (P1 c Z Q) noE s
noncomputable def Cmp (c:Cst) (A:Around) (op:CmpOp) (a b:D) (led:Led) (Q:D->Led->Prop):Prop:=
 ∀ Z s v u,R c Z led s->AV c.w Z v a->AV c.w Z u b->wpAny c.M A (compareOp op v u) (P1 c Z Q) noE s
noncomputable def Una (c:Cst) (A:Around) (op:UnaryOp) (a:D) (led:Led) (Q:D->Led->Prop):Prop:=
 ∀ Z s v,R c Z led s->AV c.w Z v a->wpAny c.M A (unaryOp op v) (P1 c Z Q) noE s
noncomputable def Tru (c:Cst) (A:Around) (a:D) (led:Led) (Q:Bool->Led->Prop):Prop:=
 ∀ Z s v,R c Z led s->AV c.w Z v a->wpAny c.M A (truthy v) (PB c Z Q) noE s
noncomputable def Sub (c:Cst) (A:Around) (val sl:Expr) (a i:D) (led:Led) (Q:D->Led->Prop):Prop:=
 ∀ Z s v u,R c Z led s->AV c.w Z v a->AV c.w Z u i->wpAny c.M A (subscriptTail val sl v u) (P1 c Z Q) noE s
noncomputable def Gat (c:Cst) (A:Around) (a:D) (x:Str) (led:Led) (Q:D->Led->Prop):Prop:=
 ∀ Z s v,R c Z led s->AV c.w Z v a->wpAny c.M A (getAttr v x true) (P1 c Z Q) noE s
noncomputable def Sat (c:Cst) (A:Around) (a:D) (x:Str) (b:D) (led:Led) (Q:Led->Prop):Prop:=
 ∀ Z s v u,R c Z led s->AV c.w Z v a->AV c.w Z u b->wpAny c.M A (setAttr v x u) (PU c Z Q) noE s
noncomputable def Sit (c:Cst) (A:Around) (a i b:D) (led:Led) (Q:Led->Prop):Prop:=
 ∀ Z s v k u,R c Z led s->AV c.w Z v a->AV c.w Z k i->AV c.w Z u b->wpAny c.M A (setItem v k u) (PU c Z Q) noE s
noncomputable def Cl (c:Cst) (A:Around) (f:D) (ds:List D) (led:Led) (Q:D->Led->Prop):Prop:=
 ∀ Z s g vs,R c Z led s->AV c.w Z g f->AVs c.w Z vs ds->wpAny c.M A (call g vs) (P1 c Z Q) noE s
noncomputable def Itr (c:Cst) (A:Around) (a:D) (led:Led) (Q:D->Led->Prop):Prop:=
 ∀ Z s v,R c Z led s->AV c.w Z v a->wpAny c.M A (pyIter v) (P1 c Z Q) noE s
inductive TB (Q:Bool->Led->Prop) (d:D) (l:Led):Prop
 | mk (b:Bool):d = .bool b->Q b l->TB Q d l
inductive PI (Q:Option Int->Led->Prop) (d:D) (l:Led):Prop
 | mk (i:Int):d = .int i->Q (some i) l->PI Q d l
inductive IX (n:Nat) (Q:Nat->Led->Prop) (d:D) (l:Led):Prop
 | mk (r:Nat):d = .int r->r<n->Q r l->IX n Q d l
inductive IS (a:D) (P:Led->Prop) (d:D) (l:Led):Prop
 | mk:d=a->P l->IS a P d l
inductive LT (n:Nat) (inv:Nat->Led->Prop) (l:Led):Prop
 | mk (m:Nat):m<n->inv m l->LT n inv l
noncomputable abbrev kI (c:Cst) (A:Around) (Q:D->Led->Prop) (d:D) (l:Led):Prop:=Itr c A d l Q
noncomputable abbrev kV (c:Cst) (A:Around) (env:Env) (e:Expr) (Q:D->Led->Prop) (l:Led):Prop:=Ev c A env e l Q
section
variable {c:Cst}{A:Around}{env:Env}{led:Led}{Z Z':HP}{s:Shared}
theorem P1.le {Q:D->Led->Prop}{v:Value} (h:Z.le Z') (x:P1 c Z' Q v s):P1 c Z Q v s:=let ⟨a,b,d,e,r,q,t⟩:=x; ⟨a,b,d,h.trans e,r,q,t⟩
theorem P1.imp {Q Q':D->Led->Prop}{v:Value} (x:P1 c Z Q v s) (k:∀ d l,Q d l->Q' d l):P1 c Z Q' v s:=x.casesOn fun u_ u_ u_ e r a q=>.mk _ _ _ e r a (k _ _ q)
theorem PB.le {Q:Bool->Led->Prop}{v:Bool} (h:Z.le Z') (x:PB c Z' Q v s):PB c Z Q v s:=let ⟨a,b,e,r,q⟩:=x; ⟨a,b,h.trans e,r,q⟩
theorem PU.le {Q:Led->Prop}{v:Unit} (h:Z.le Z') (x:PU c Z' Q v s):PU c Z Q v s:=let ⟨a,b,e,r,q⟩:=x; ⟨a,b,h.trans e,r,q⟩
theorem PF.le {Q:Fl->Led->Prop}{v:Flow} (h:Z.le Z') (x:PF c Z' Q v s):PF c Z Q v s:=let ⟨a,b,d,e,r,q,t⟩:=x; ⟨a,b,d,h.trans e,r,q,t⟩
theorem noE.im {E:Value->Shared->Prop}:∀ v s,noE v s->E v s:=fun u_ u_ h=>h.elim
theorem bD {Q:D->Led->Prop}{Q':Value->Shared->Prop}{t:Sem Value}{E:Value->Shared->Prop} (h:wpAny c.M A t (P1 c Z Q) noE s)
  (k:∀ Z' led' s' v d,Z.le Z'->R c Z' led' s'->AV c.w Z' v d->Q d led'->Q' v s'):wpAny c.M A t Q' E s:=
 ac h (fun v s' ⟨Z',led',d,h1,h2,h3,h4⟩=>k Z' led' s' v d h1 h2 h3 h4) noE.im
theorem fo {Q:Bool->Led->Prop}{Q':Bool->Shared->Prop}{t:Sem Bool}{E:Value->Shared->Prop} (h:wpAny c.M A t (PB c Z Q) noE s)
  (k:∀ Z' led' s' b,Z.le Z'->R c Z' led' s'->Q b led'->Q' b s'):wpAny c.M A t Q' E s:=
 ac h (fun v s' ⟨Z',led',h1,h2,h4⟩=>k Z' led' s' v h1 h2 h4) noE.im
theorem fq {Q:Led->Prop}{Q':Unit->Shared->Prop}{t:Sem Unit}{E:Value->Shared->Prop} (h:wpAny c.M A t (PU c Z Q) noE s)
  (k:∀ Z' led' s',Z.le Z'->R c Z' led' s'->Q led'->Q' () s'):wpAny c.M A t Q' E s:=
 ac h (fun _ s' ⟨Z',led',h1,h2,h4⟩=>k Z' led' s' h1 h2 h4) noE.im
theorem jd {Q:List D->Led->Prop}{Q':List Value->Shared->Prop}{t:Sem (List Value)}{E:Value->Shared->Prop} (h:wpAny c.M A t (PL c Z Q) noE s)
  (k:∀ Z' led' s' v d,Z.le Z'->R c Z' led' s'->AVs c.w Z' v d->Q d led'->Q' v s'):wpAny c.M A t Q' E s:=
 ac h (fun v s' ⟨Z',led',d,h1,h2,h3,h4⟩=>k Z' led' s' v d h1 h2 h3 h4) noE.im
theorem je {Q:Fl->Led->Prop}{Q':Flow->Shared->Prop}{t:Sem Flow}{E:Value->Shared->Prop} (h:wpAny c.M A t (PF c Z Q) noE s)
  (k:∀ Z' led' s' v d,Z.le Z'->R c Z' led' s'->FlR c.w Z' v d->Q d led'->Q' v s'):wpAny c.M A t Q' E s:=
 ac h (fun v s' ⟨Z',led',d,h1,h2,h3,h4⟩=>k Z' led' s' v d h1 h2 h3 h4) noE.im
theorem Ev.mono {st:Expr}{Q Q':D->Led->Prop} (h:Ev c A env st led Q') (k:∀ f l,Q' f l->Q f l):Ev c A env st led Q:=fun Z s r=>ac (h Z s r) (fun u_ u_ x=>x.imp k) noE.im
theorem Itr.mono {a:D}{Q Q':D->Led->Prop} (h:Itr c A a led Q') (k:∀ f l,Q' f l->Q f l):Itr c A a led Q:=fun Z s v r av=>ac (h Z s v r av) (fun u_ u_ x=>x.imp k) noE.im
theorem Ex.mono {st:Stmt}{Q Q':Fl->Led->Prop} (h:Ex c A env st led Q') (k:∀ f l,Q' f l->Q f l):Ex c A env st led Q:=fun Z s r=>ac (h Z s r) (fun u_ u_ x=>x.casesOn fun u_ u_ u_ e r a q=>.mk _ _ _ e r a (k _ _ q)) noE.im
theorem mk1 {Q:D->Led->Prop}{v:Value}{d:D} (r:R c Z led s) (a:AV c.w Z v d) (h:Q d led):P1 c Z Q v s:=⟨Z,led,d,.rfl,r,a,h⟩
theorem mkB {Q:Bool->Led->Prop}{b:Bool} (r:R c Z led s) (h:Q b led):PB c Z Q b s:=⟨Z,led,.rfl,r,h⟩
theorem mkU {Q:Led->Prop} (r:R c Z led s) (h:Q led):PU c Z Q () s:=⟨Z,led,.rfl,r,h⟩
theorem R.ns (r:R c Z led s){L:Addr}{m:List (Str×D)} (h:At led L (.ns m)):∃ mv,s.heap.Ns L mv/\∀ x d,m.lookup x=some d->∃ v,mv x=some v/\AV c.w Z v d:=by
 obtain ⟨o,ho,x⟩:=r.at_ h
 cases x using Ch.On.eNs with
 | ns a b e f=>exact ⟨_,⟨o,_,_,ho,a,b,e⟩,f⟩
theorem Ev.lo {x:Str}{pos:Pos}{m:List (Str×D)}{d:D}{Q:D->Led->Prop} (hk:env.scope.kind = .function) (hl:env.kindOf x=some .local) (hm:At led env.locals (.ns m))
  (hx:m.lookup x=some d) (hd:(x == ("__debug__" : Str))=false) (h:Q d led):Ev c A env (.Name x pos) led Q:=fun Z s r=>by
 obtain ⟨mv,hn,k⟩:=r.ns hm
 obtain ⟨v,hv,ha⟩:=k _ _ hx
 exact wpAny_Name (wpAny_loadName_local hk hl hn hv (mk1 r ha h)) hd
theorem R.cell (r:R c Z led s){a:Addr}{d:D} (h:At led a (.cell (some d))):∃ v,s.heap.IsCell a (some v)/\AV c.w Z v d:=by
 obtain ⟨o,ho,x⟩:=r.at_ h
 exact x.inv (P:=fun o=>s.heap.get? a=some o->_) (fun o v e k ho=>let ⟨u,hu,b⟩:=k _ rfl; ⟨u,⟨o,ho,hu ▸ e⟩,b⟩) ho
theorem Ev.ce {x:Str}{pos:Pos}{a:Addr}{d:D}{Q:D->Led->Prop} (hk:env.scope.kind = .function) (hl:env.kindOf x=some .cell) (hc:env.cells.lookup x=some a)
  (hm:At led a (.cell (some d))) (hd:(x == ("__debug__" : Str))=false) (h:Q d led):Ev c A env (.Name x pos) led Q:=fun Z s r=>by
 obtain ⟨v,hv,ha⟩:=r.cell hm
 exact wpAny_Name (wpAny_loadName_cell hk hl hc hv (mk1 r ha h)) hd
theorem Ev.fre {x:Str}{pos:Pos}{a:Addr}{d:D}{Q:D->Led->Prop} (hk:env.scope.kind = .function) (hl:env.kindOf x=some .free) (hc:env.cells.lookup x=some a)
  (hm:At led a (.cell (some d))) (hd:(x == ("__debug__" : Str))=false) (hn:(x == ("__classdict__" : Str))=false) (h:Q d led):Ev c A env (.Name x pos) led Q:=fun Z s r=>by
 obtain ⟨v,hv,ha⟩:=r.cell hm
 exact wpAny_Name (wpAny_loadName_free hk hl hc hv (mk1 r ha h) hn) hd
structure Cst.Ok (c:Cst):Prop where
 g:c.H0.Ns mainGlobals c.mg
 b:c.H0.Ns builtinsNs c.mb
 lim:c.H0.NoLimit
 sm:∃ o,c.H0.get? sysModules=some o
 k:c.K.In c.H0
theorem R.noSys (ok:c.Ok) (r:R c Z led s){a:Addr} (h:Z a=none):(a == sysModules)=false:=by
 obtain ⟨o,ho⟩:=ok.sm
 exact beq_false_of_ne fun e=>by subst e; rw [r.base _ _ ho] at h; exact sN h
theorem R.keepH (r:R c Z led s):∀ a o,c.H0.get? a=some o->s.heap.get? a=some o:=fun a o e=>r.zin a o (r.base a o e)
theorem Ev.glo {x:Str}{pos:Pos}{v:Value}{Q:D->Led->Prop} (ok:c.Ok) (hk:env.scope.kind = .function) (hl:env.kindOf x=some .globalImplicit) (hg:env.globals=mainGlobals)
  (hx:c.mg x=some v) (hd:(x == ("__debug__" : Str))=false) (h:Q (.val v) led):Ev c A env (.Name x pos) led Q:=fun Z s r=>by
 refine wpAny_Name ?_ hd
 refine rP (loadName_read hk hl) ?_
 exact PySem.Calls.loadGlobal_global (hg ▸ ok.g.keeps r.keepH) hx (mk1 r .val h)
theorem Ev.gloI {x:Str}{pos:Pos}{i:Int}{t:Tok}{Q:D->Led->Prop} (ok:c.Ok) (hk:env.scope.kind = .function) (hl:env.kindOf x=some .globalImplicit) (hg:env.globals=mainGlobals)
  (hx:c.mg x=some (.int i t)) (hd:(x == ("__debug__" : Str))=false) (h:Q (.int i) led):Ev c A env (.Name x pos) led Q:=fun Z s r=>by
 refine wpAny_Name ?_ hd
 refine rP (loadName_read hk hl) ?_
 exact PySem.Calls.loadGlobal_global (hg ▸ ok.g.keeps r.keepH) hx (mk1 r .int h)
theorem Ev.bui {x:Str}{pos:Pos}{v:Value}{Q:D->Led->Prop} (ok:c.Ok) (hk:env.scope.kind = .function) (hl:env.kindOf x=some .globalImplicit) (hg:env.globals=mainGlobals)
  (hb:env.builtins=builtinsNs) (hm:c.mg x=none) (hx:c.mb x=some v) (hd:(x == ("__debug__" : Str))=false) (h:Q (.val v) led):Ev c A env (.Name x pos) led Q:=fun Z s r=>by
 refine wpAny_Name ?_ hd
 refine rP (loadName_read hk hl) ?_
 exact PySem.Calls.loadGlobal_builtin (hg ▸ ok.g.keeps r.keepH) hm (hb ▸ ok.b.keeps r.keepH) hx (mk1 r .val h)
theorem Ev.cn {n:Nat}{k:_}{pos:Pos}{Q:D->Led->Prop} (i:Int) (h:Q (.int i) led) (hi:i=(n:Int):=by rfl):Ev c A env (.Constant (.int (Int.ofNat n)) k pos) led Q:=fun u_ u_ r=>wpAny_Constant_int (mk1 (r.toks _) .int (by subst hi; exact h))
theorem Ev.cstr {x:Str}{k:_}{pos:Pos}{Q:D->Led->Prop} (h:Q (.str x) led):Ev c A env (.Constant (.str x) k pos) led Q:=fun u_ u_ r=>wpAny_Constant_str (mk1 (r.toks _) .str h)
theorem Ev.cbool {b:Bool}{k:_}{pos:Pos}{Q:D->Led->Prop} (h:Q (.bool b) led):Ev c A env (.Constant (.bool b) k pos) led Q:=fun u_ u_ r=>wpAny_Constant_bool (mk1 r .bool h)
theorem Ev.cnone {k:_}{pos:Pos}{Q:D->Led->Prop} (h:Q .none led):Ev c A env (.Constant .none k pos) led Q:=fun u_ u_ r=>wpAny_Constant_none (mk1 r .none h)
noncomputable abbrev kB (c:Cst) (A:Around) (op:Operator) (Q:D->Led->Prop) (a b:D) (l:Led):Prop:=Bin c A op a b l Q
noncomputable abbrev kB2 (c:Cst) (A:Around) (env:Env) (r:Expr) (op:Operator) (Q:D->Led->Prop) (a:D) (l:Led):Prop:=Ev c A env r l (kB c A op Q a)
noncomputable abbrev kC (c:Cst) (A:Around) (op:CmpOp) (Q:D->Led->Prop) (a b:D) (l:Led):Prop:=Cmp c A op a b l Q
noncomputable abbrev kC2 (c:Cst) (A:Around) (env:Env) (r:Expr) (op:CmpOp) (Q:D->Led->Prop) (a:D) (l:Led):Prop:=Ev c A env r l (kC c A op Q a)
noncomputable abbrev kX (c:Cst) (A:Around) (v sl:Expr) (Q:D->Led->Prop) (a i:D) (l:Led):Prop:=Sub c A v sl a i l Q
noncomputable abbrev kX2 (c:Cst) (A:Around) (env:Env) (v sl:Expr) (Q:D->Led->Prop) (a:D) (l:Led):Prop:=Ev c A env sl l (kX c A v sl Q a)
noncomputable abbrev kL (Q:List D->Led->Prop) (d:D) (ds:List D) (l:Led):Prop:=Q (d::ds) l
noncomputable abbrev kE (c:Cst) (A:Around) (env:Env) (pos:Pos) (es:List Expr) (Q:List D->Led->Prop) (d:D) (l:Led):Prop:=Evs c A env pos es l (kL Q d)
noncomputable abbrev kS (c:Cst) (A:Around) (env:Env) (rest:List Stmt) (Q:Fl->Led->Prop) (f:Fl) (l:Led):Prop:=match f with | .next=>Exs c A env rest l Q | f=>Q f l
theorem Ev.bi {l r:Expr}{op:Operator}{pos:Pos}{Q:D->Led->Prop} (h:Ev c A env l led (kB2 c A env r op Q)):Ev c A env (.BinOp l op r pos) led Q:=
 fun Z s x=>wpAny_BinOp (bD (h Z s x) fun Z1 led₁ s₁ v a h1 r1 a1 q1=>bD (q1 Z1 s₁ r1) fun Z₂ led₂ s₂ u b h2 r2 a2 q2=>
  ac (q2 Z₂ s₂ v u r2 (a1.mono h2) a2) (fun u_ u_ y=>P1.le (h1.trans h2) y) noE.im)
theorem Ev.una {e:Expr}{op:UnaryOp}{pos:Pos}{Q:D->Led->Prop} (h:Ev c A env e led fun a led₁=>Una c A op a led₁ Q):Ev c A env (.UnaryOp op e pos) led Q:=
 fun Z s x=>wpAny_UnaryOp (bD (h Z s x) fun Z1 led₁ s₁ v a h1 r1 a1 q1=>ac (q1 Z1 s₁ v r1 a1) (fun u_ u_ y=>P1.le h1 y) noE.im)
theorem Tst.cmp {l r:Expr}{op:CmpOp}{pos:Pos}{Q:Bool->Led->Prop} (hm:behindInMarks op r=false)
  (h:Ev c A env l led (kC2 c A env r op (TB Q))):Tst c A env (.Compare l [op] [r] pos) led Q:=
 fun Z s x=>wpAny_isTrue_Compare1 (bD (h Z s x) fun Z1 led₁ s₁ v a h1 r1 a1 q1=>bD (q1 Z1 s₁ r1) fun Z₂ led₂ s₂ u b h2 r2 a2 q2=>
  bD (q2 Z₂ s₂ v u r2 (a1.mono h2) a2) fun Z3 led3 s₃ v3 d3 h3 r3 a3 q3=>by
   obtain ⟨b,rfl,q⟩:=q3
   cases a3 using AV.eBool
   exact wpAny_truthy_bool ⟨Z3,led3,(h1.trans h2).trans h3,r3,q⟩) hm
theorem Tst.cmp2 {l m r:Expr}{op1 op2:CmpOp}{pos:Pos}{Q:Bool->Led->Prop} (hm:lastMarks [op1,op2] [m,r]=false)
  (h:Ev c A env l led fun a led₁=>Ev c A env m led₁ fun b led₂=>Cmp c A op1 a b led₂ (TB fun t led3=>if t=true then (Ev c A env r led3 fun e led4=>Cmp c A op2 b e led4 (TB Q)) else Q false led3)) :
  Tst c A env (.Compare l [op1,op2] [m,r] pos) led Q:=fun Z s x=>by
 refine isTrue_chain (bD (h Z s x) fun Z1 led₁ s₁ v a h1 r1 a1 q1=>?_) hm
 refine aa (aV (bD (q1 Z1 s₁ r1) fun Z₂ led₂ s₂ u b h2 r2 a2 q2=>?_))
 refine aa (wpAny_standAt (aa (aV (bD (q2 Z₂ s₂ v u r2 (a1.mono h2) a2) fun Z3 led3 s₃ v3 d3 h3 r3 a3 q3=>?_))))
 obtain ⟨t,rfl,q⟩:=q3
 cases a3 using AV.eBool
 refine aa (mC (aa (aV (wpAny_truthy_bool ?_))))
 induction t with
 | false=>exact ab ⟨Z3,led3,(h1.trans h2).trans h3,r3,q⟩
 | true=>
  rw [aY rfl] at q ⊢
  refine aa (aV (bD (q Z3 s₃ r3) fun Z4 led4 s₄ u4 b4 h4 r4 a4 q4=>?_))
  refine aa (wpAny_standAt (aa (mD (bD (q4 Z4 s₄ u u4 r4 ((a2.mono h3).mono h4) a4) fun Z5 led5 s₅ v5 d5 h5 r5 a5 q5=>?_))))
  obtain ⟨t,rfl,q⟩:=q5
  cases a5 using AV.eBool
  exact aV (wpAny_truthy_bool ⟨Z5,led5,(((h1.trans h2).trans h3).trans h4).trans h5,r5,q⟩)
theorem Tst.val {e:Expr}{Q:Bool->Led->Prop} (he:isTrue e env (eval e env)=(do let v <- eval e env; standAt e.pos; holding [v] (truthy v))) (h:Ev c A env e led fun a led₁=>Tru c A a led₁ Q):Tst c A env e led Q:=
 fun Z s x=>wpAny_isTrue_value (bD (h Z s x) fun Z1 led₁ s₁ v a h1 r1 a1 q1=>ac (q1 Z1 s₁ v r1 a1) (fun u_ u_ y=>PB.le h1 y) noE.im) he
theorem Tst.bop {op:BoolOp}{es:List Expr}{pos:Pos}{Q:Bool->Led->Prop} (h:Tall c A env op es led Q):Tst c A env (.BoolOp op es pos) led Q:=
 fun Z s x=>wpAny_isTrue_BoolOp (h Z s x)
theorem Tall.nilA {Q:Bool->Led->Prop} (h:Q true led):Tall c A env .And [] led Q:=fun u_ u_ x=>wpAny_allTrue_And_nil (mkB x h)
theorem Tall.nilO {Q:Bool->Led->Prop} (h:Q false led):Tall c A env .Or [] led Q:=fun u_ u_ x=>wpAny_allTrue_Or_nil (mkB x h)
theorem Tall.consA {e:Expr}{es:List Expr}{Q:Bool->Led->Prop} (h:Tst c A env e led fun b led₁=>if b=true then Tall c A env .And es led₁ Q else Q false led₁):Tall c A env .And (e::es) led Q:=
 fun Z s x=>wpAny_allTrue_And_cons (fo (h Z s x) fun Z1 led₁ s₁ b h1 r1 q=>by
  induction b with
  | true=>exact ac (q Z1 s₁ r1) (fun u_ u_ y=>PB.le h1 y) noE.im
  | false=>exact ⟨Z1,led₁,h1,r1,q⟩)
theorem Tall.consO {e:Expr}{es:List Expr}{Q:Bool->Led->Prop} (h:Tst c A env e led fun b led₁=>if b=true then Q true led₁ else Tall c A env .Or es led₁ Q):Tall c A env .Or (e::es) led Q:=
 fun Z s x=>wpAny_allTrue_Or_cons (fo (h Z s x) fun Z1 led₁ s₁ b h1 r1 q=>by
  induction b with
  | false=>exact ac (q Z1 s₁ r1) (fun u_ u_ y=>PB.le h1 y) noE.im
  | true=>exact ⟨Z1,led₁,h1,r1,q⟩)
theorem Ev.ifx {t b o:Expr}{pos:Pos}{Q:D->Led->Prop} (h:Tst c A env t led fun x led₁=>if x=true then Ev c A env b led₁ Q else Ev c A env o led₁ Q):Ev c A env (.IfExp t b o pos) led Q:=
 fun Z s x=>wpAny_IfExp (fo (h Z s x) fun Z1 led₁ s₁ b h1 r1 q=>by
  induction b with
  | true=>exact ac (q Z1 s₁ r1) (fun u_ u_ y=>P1.le h1 y) noE.im
  | false=>exact ac (q Z1 s₁ r1) (fun u_ u_ y=>P1.le h1 y) noE.im)
theorem Ev.sub {v sl:Expr}{pos:Pos}{Q:D->Led->Prop} (h:Ev c A env v led (kX2 c A env v sl Q)):Ev c A env (.Subscript v sl pos) led Q:=
 fun Z s x=>Subscript_ (bD (h Z s x) fun Z1 led₁ s₁ v a h1 r1 a1 q1=>bD (q1 Z1 s₁ r1) fun Z₂ led₂ s₂ u b h2 r2 a2 q2=>
  ac (q2 Z₂ s₂ v u r2 (a1.mono h2) a2) (fun u_ u_ y=>P1.le (h1.trans h2) y) noE.im)
theorem Ev.att {v:Expr}{x:Str}{pos:Pos}{Q:D->Led->Prop} (hs:eval (v.Attribute x pos) env=do
   let o <- eval v env
   standAt pos.atName
   let r <- holding [o] (getAttr o x true)
   letTemporaryGo v o r
   pure r) (h:Ev c A env v led fun a led₁=>Gat c A a x led₁ Q):Ev c A env (.Attribute v x pos) led Q:=
 fun Z s x=>Attribute_any_ (bD (h Z s x) fun Z1 led₁ s₁ v a h1 r1 a1 q1=>ac (q1 Z1 s₁ v r1 a1) (fun u_ u_ y=>P1.le h1 y) noE.im) hs
theorem Evs.ni {pos:Pos}{Q:List D->Led->Prop} (h:Q [] led):Evs c A env pos [] led Q:=fun Z u_ r=>wpAny_items_nil ⟨Z,led,[],.rfl,r,.nil,h⟩
theorem Evs.co {pos:Pos}{e:Expr}{es:List Expr}{Q:List D->Led->Prop} (he:starEach (e::es) env=(false,eval e env)::starEach es env)
  (h:Ev c A env e led (kE c A env pos es Q)):Evs c A env pos (e::es) led Q:=
 fun Z s x=>wpAny_items_cons (bD (h Z s x) fun Z1 led₁ s₁ v a h1 r1 a1 q1=>jd (q1 Z1 s₁ r1) fun Z₂ led₂ s₂ u b h2 r2 a2 q2=>⟨Z₂,led₂,_,h1.trans h2,r2,.cons (a1.mono h2) a2,q2⟩) he
theorem Ev.tup {es:List Expr}{k:Nat}{pos:Pos}{Q:D->Led->Prop} (h:Evs c A env pos es led fun ds led₁=>ds.length<=sizeLine/\Q (.tup ds) led₁):Ev c A env (.Tuple es k pos) led Q:=
 fun Z s x=>wpAny_Tuple (jd (h Z s x) fun Z1 led₁ s₁ vs ds h1 r1 a1 q1=>by
  obtain ⟨hz,r2⟩:=r1.pushZ (o:=eY vs 0) rfl
  exact ⟨by refine rP a1.length ?_; exact q1.1,_,led₁,_,h1.trans hz,r2,.tup HP.sf (a1.mono hz),q1.2⟩)
theorem Ev.lst {es:List Expr}{pos:Pos}{Q:D->Led->Prop} (h:Evs c A env pos es led fun ds led₁=>ds.length<=sizeLine/\Q (.lst ds) led₁):Ev c A env (.List es pos) led Q:=
 fun Z s x=>wpAny_List (jd (h Z s x) fun Z1 led₁ s₁ vs ds h1 r1 a1 q1=>by
  obtain ⟨hz,r2⟩:=r1.pushZ (o:=ci vs 0) rfl
  exact ⟨by refine rP a1.length ?_; exact q1.1,_,led₁,_,h1.trans hz,r2,.lst HP.sf (a1.mono hz),q1.2⟩)
theorem Ev.lstM {es:List Expr}{pos:Pos}{Q:D->Led->Prop} (h:Evs c A env pos es led fun ds led₁=>ds.length<=sizeLine/\∀ a,Q (.ref a) ((a,.lst ds)::led₁)):Ev c A env (.List es pos) led Q:=
 fun Z s x=>wpAny_List (jd (h Z s x) fun Z1 led₁ s₁ vs ds h1 r1 a1 q1=>
  ⟨by refine rP a1.length ?_; exact q1.1,Z1,_,_,h1,r1.push (o:=ci vs 0) (.lst a1),.val,q1.2 _⟩)
theorem Exs.ni {Q:Fl->Led->Prop} (h:Q .next led):Exs c A env [] led Q:=fun Z u_ r=>wpAny_execs_nil ⟨Z,led,.next,.rfl,r,.next,h⟩
theorem Exs.co {st:Stmt}{rest:List Stmt}{Q:Fl->Led->Prop} (h:Ex c A env st led (kS c A env rest Q)):Exs c A env (st::rest) led Q:=
 fun Z s x=>wpAny_execs_cons (je (h Z s x) fun Z1 led₁ s₁ f g h1 r1 a1 q1=>by
  induction a1 with
  | next=>exact ac (q1 Z1 s₁ r1) (fun u_ u_ y=>PF.le h1 y) noE.im
  | brk=>exact ⟨Z1,led₁,_,h1,r1,.brk,q1⟩
  | cont=>exact ⟨Z1,led₁,_,h1,r1,.cont,q1⟩
  | ret a=>exact ⟨Z1,led₁,_,h1,r1,.ret a,q1⟩)
theorem Ex.ite {t:Expr}{b o:List Stmt}{pos:Pos}{Q:Fl->Led->Prop} (h:Tst c A env t led fun x led₁=>if x=true then Exs c A env b led₁ Q else Exs c A env o led₁ Q):Ex c A env (.If t b o pos) led Q:=
 fun Z s x=>wpAny_If (fo (h Z s x) fun Z1 led₁ s₁ b h1 r1 q=>by
  induction b with
  | true=>exact ac (q Z1 s₁ r1) (fun u_ u_ y=>PF.le h1 y) noE.im
  | false=>exact ac (q Z1 s₁ r1) (fun u_ u_ y=>PF.le h1 y) noE.im)
theorem Ex.ret {e:Expr}{pos:Pos}{Q:Fl->Led->Prop} (h:Ev c A env e led fun d led₁=>Q (.ret d) led₁):Ex c A env (.Return (some e) pos) led Q:=
 fun Z s x=>wpAny_Return_some (bD (h Z s x) fun Z1 led₁ s₁ v d h1 r1 a1 q=>⟨Z1,led₁,_,h1,r1,.ret a1,q⟩)
theorem Ex.ret0 {pos:Pos}{Q:Fl->Led->Prop} (h:Q (.ret .none) led):Ex c A env (.Return none pos) led Q:=fun Z u_ r=>wpAny_Return_none ⟨Z,led,_,.rfl,r,.ret .none,h⟩
theorem Ex.cont {pos:Pos}{Q:Fl->Led->Prop} (h:Q .cont led):Ex c A env (.Continue pos) led Q:=fun Z u_ r=>wpAny_Continue ⟨Z,led,_,.rfl,r,.cont,h⟩
theorem hF {x:Str}{v:Value}{d:D}{m:List (Str×D)}{led':Led}{Q:Led->Prop} (hl:env.kindOf x=some .local)
  (hp:(env.scope.kind == .class || (env.scope.kind == .module && env.locals != env.globals))=false)
  (u:Up led env.locals (.ns m) (.ns ((x,d)::m)) led') (h:Q led') (r:R c Z led s) (a:AV c.w Z v d):wpAny c.M A (storeName env x v) (PU c Z Q) noE s:=by
 obtain ⟨mv,hn,k⟩:=r.ns u.at
 refine wpAny_storeName_local hl hn (fun h' hn' hs'=>⟨Z,led',.rfl,?_,h⟩) hp
 obtain ⟨o,es,ep,ho,e1,e2,e3⟩:=hn'
 refine r.turn u hs' ho (.ns e1 e2 e3 fun y e hy=>?_)
 rw [aS] at hy
 by_cases q:y=x
 ·subst q
  simp at hy
  subst hy
  exact ⟨v,aY rfl,a⟩
 ·rw [beq_false_of_ne q] at hy
  obtain ⟨v',h1,h2⟩:=k y e hy
  exact ⟨v',by show (if y=x then some v else mv y)=_; refine rP (aX q) ?_; exact h1,h2⟩
noncomputable def Ch.isCell:Ch->Bool
 | .cell _=>true
 | .cellA=>true
 | _=>false
theorem kJ {x:Str}{v:Value}{d:D}{d0:Ch}{a:Addr}{led':Led}{Q:Led->Prop} (hk:env.scope.kind = .function) (hl:env.kindOf x=some .cell) (hc:env.cells.lookup x=some a)
  (u:Up led a d0 (.cell (some d)) led') (hd0:d0.isCell=true) (h:Q led') (r:R c Z led s) (av:AV c.w Z v d):wpAny c.M A (storeName env x v) (PU c Z Q) noE s:=by
 obtain ⟨o,ho,hx⟩:=r.at_ u.at
 have hc0:∃ v0,s.heap.IsCell a v0:=by
  clear u
  induction d0 with
  | cell=>exact hx.inv (P:=fun o=>s.heap.get? a=some o->_) (fun o v e u_ ho=>⟨_,o,ho,e⟩) ho
  | cellA=>exact hx.inv (P:=fun o=>s.heap.get? a=some o->_) (fun o v e ho=>⟨_,o,ho,e⟩) ho
  | _=>exact fT hd0
 obtain ⟨v0,hv0⟩:=hc0
 refine wpAny_storeName_cell hk hl hc hv0 fun h' hv hs=>⟨Z,led',.rfl,?_,h⟩
 obtain ⟨o',ho',e'⟩:=hv
 exact r.turn (t:=s.toks) u hs ho' (.cell e' av)
theorem Asg.lo {x:Str}{pos:Pos}{d:D}{m:List (Str×D)}{led':Led}{Q:Led->Prop} (hl:env.kindOf x=some .local)
  (hp:(env.scope.kind == .class || (env.scope.kind == .module && env.locals != env.globals))=false)
  (u:Up led env.locals (.ns m) (.ns ((x,d)::m)) led') (h:Q led'):Asg c A env (.Name x pos) d led Q:=fun u_ u_ u_ r a=>wpAny_assign_Name (hF hl hp u h r a)
theorem Asg.cel {x:Str}{pos:Pos}{d:D}{d0:Ch}{a:Addr}{led':Led}{Q:Led->Prop} (hk:env.scope.kind = .function) (hl:env.kindOf x=some .cell) (hc:env.cells.lookup x=some a)
  (u:Up led a d0 (.cell (some d)) led') (hd0:d0.isCell=true) (h:Q led'):Asg c A env (.Name x pos) d led Q:=fun u_ u_ u_ r av=>wpAny_assign_Name (kJ hk hl hc u hd0 h r av)
noncomputable abbrev kA (c:Cst) (A:Around) (env:Env) (t:Expr) (Q:Fl->Led->Prop) (d:D) (l:Led):Prop:=Asg c A env t d l (Q .next)
theorem Ex.asg {x:Str}{p pos:Pos}{e:Expr}{Q:Fl->Led->Prop} (hs:swapsWith e (some (.Name x p)) pos.line env=pure false)
  (h:Ev c A env e led (kA c A env (.Name x p) Q)):Ex c A env (.Assign [.Name x p] e pos) led Q:=fun Z s r=>by
 refine rP (exec_Assign_Name _ _ _ _ _ hs) ?_
 refine aa (wpAny_standAt (aa (bD (h Z s r) fun Z1 led₁ s₁ v d h1 r1 a1 q1=>?_)))
 have z:=q1 Z1 s₁ v r1 a1
 rw [PySem.assign_Name] at z
 have e2:(do standAt p; bindName env x v; pure Flow.next:Sem Flow)=((do standAt p; bindName env x v:Sem Unit) >>= fun u_=>pure Flow.next):=by simp only [bind_assoc]
 refine rP e2 ?_
 exact aa (fq z fun Z₂ led₂ s₂ h2 r2 q2=>ab ⟨Z₂,led₂,_,h1.trans h2,r2,.next,q2⟩)
end
end
section
section
variable {c:Cst}{A:Around}{env:Env}{led:Led}{Z Z':HP}{s:Shared}
section
variable {op:Operator}{co:CmpOp}{a b:Int}{x y:Str}{Q:D->Led->Prop}
theorem Bin.ii (h:∀ Z s t u,R c Z led s->wpAny c.M A (binaryOp op (.int a t) (.int b u)) (P1 c Z Q) noE s):Bin c A op (.int a) (.int b) led Q:=fun Z s u_ u_ r x y=>x.int' fun t=>y.int' fun u=>h Z s t u r
theorem Bin.ss (h:∀ Z s t u,R c Z led s->wpAny c.M A (binaryOp op (.str x t) (.str y u)) (P1 c Z Q) noE s):Bin c A op (.str x) (.str y) led Q:=fun Z s u_ u_ r x y=>x.str' fun t=>y.str' fun u=>h Z s t u r
theorem Inp.ii (h:∀ Z s t u,R c Z led s->wpAny c.M A (inplaceOp op (.int a t) (.int b u)) (P1 c Z Q) noE s):Inp c A op (.int a) (.int b) led Q:=fun Z s u_ u_ r x y=>x.int' fun t=>y.int' fun u=>h Z s t u r
theorem Inp.ss (h:∀ Z s t u,R c Z led s->wpAny c.M A (inplaceOp op (.str x t) (.str y u)) (P1 c Z Q) noE s):Inp c A op (.str x) (.str y) led Q:=fun Z s u_ u_ r x y=>x.str' fun t=>y.str' fun u=>h Z s t u r
theorem Cmp.ii (h:∀ Z s t u,R c Z led s->wpAny c.M A (compareOp co (.int a t) (.int b u)) (P1 c Z Q) noE s):Cmp c A co (.int a) (.int b) led Q:=fun Z s u_ u_ r x y=>x.int' fun t=>y.int' fun u=>h Z s t u r
theorem Cmp.ss (h:∀ Z s t u,R c Z led s->wpAny c.M A (compareOp co (.str x t) (.str y u)) (P1 c Z Q) noE s):Cmp c A co (.str x) (.str y) led Q:=fun Z s u_ u_ r x y=>x.str' fun t=>y.str' fun u=>h Z s t u r
theorem mkI (r:R c Z led s){k:Nat}{t:Tok} (h:Q (.int a) led):P1 c Z Q (.int a t) { s with toks:=k }:=mk1 (r.toks _) .int h
theorem mkS (r:R c Z led s){k:Nat}{t:Tok} (h:Q (.str x) led):P1 c Z Q (.str x t) { s with toks:=k }:=mk1 (r.toks _) .str h
theorem jc (r:R c Z led s){b:Bool} (h:Q (.bool b) led):P1 c Z Q (.bool b) s:=mk1 r .bool h
end
theorem Bin.addI {a b:Int}{Q:D->Led->Prop} (h:Q (.int (a+b)) led):Bin c A .Add (.int a) (.int b) led Q:=.ii fun u_ u_ u_ u_ r=>add_int (mkI r h)
theorem Bin.subI {a b:Int}{Q:D->Led->Prop} (h:Q (.int (a - b)) led):Bin c A .Sub (.int a) (.int b) led Q:=.ii fun u_ u_ u_ u_ r=>sub_int (mkI r h)
theorem mulOk {a b:Int} (h1:-(2 ^ 64)<a) (h2:a<2 ^ 64):IntMulOk a b:=.of_left (intBits_le_64 h1 h2)
theorem Bin.mulI {a b:Int}{Q:D->Led->Prop} (h1:-(2 ^ 64)<a) (h2:a<2 ^ 64) (h:Q (.int (a*b)) led):Bin c A .Mult (.int a) (.int b) led Q:=.ii fun u_ u_ u_ u_ r=>mul_int (mkI r h) (mulOk h1 h2)
theorem Bin.divI {a b:Int}{Q:D->Led->Prop} (h0:b≠0) (h1:b.natAbs<1073741824) (h:Q (.int (a.fdiv b)) led):Bin c A .FloorDiv (.int a) (.int b) led Q:=.ii fun u_ u_ u_ u_ r=>floordiv_int h0 (mkI r h) (.inl (PyProof.noPylong_small h1))
theorem Bin.modI {a b:Int}{Q:D->Led->Prop} (h0:b≠0) (h:Q (.int (a.fmod b)) led):Bin c A .Mod (.int a) (.int b) led Q:=.ii fun u_ u_ u_ u_ r=>mod_int' h0 (mkI r h)
theorem Inp.addI {a b:Int}{Q:D->Led->Prop} (h:Q (.int (a+b)) led):Inp c A .Add (.int a) (.int b) led Q:=.ii fun u_ u_ u_ u_ r=>iadd_int (mkI r h)
theorem Inp.subI {a b:Int}{Q:D->Led->Prop} (h:Q (.int (a - b)) led):Inp c A .Sub (.int a) (.int b) led Q:=.ii fun u_ u_ u_ u_ r=>isub_int (mkI r h)
theorem Una.negI {a:Int}{Q:D->Led->Prop} (h:Q (.int (-a)) led):Una c A .USub (.int a) led Q:=fun u_ u_ u_ r x=>x.int' fun u_=>neg_int (mkI r h)
theorem Cmp.eqI {a b:Int}{Q:D->Led->Prop} (h:Q (.bool (a == b)) led):Cmp c A .Eq (.int a) (.int b) led Q:=.ii fun u_ u_ u_ u_ r=>eq_int (jc r h)
theorem Cmp.neI {a b:Int}{Q:D->Led->Prop} (h:Q (.bool (a != b)) led):Cmp c A .NotEq (.int a) (.int b) led Q:=.ii fun u_ u_ u_ u_ r=>ne_int (jc r h)
theorem Cmp.ltI {a b:Int}{Q:D->Led->Prop} (h:Q (.bool (decide (a<b))) led):Cmp c A .Lt (.int a) (.int b) led Q:=.ii fun u_ u_ u_ u_ r=>lt_int (jc r h)
theorem Cmp.leI {a b:Int}{Q:D->Led->Prop} (h:Q (.bool (decide (a<=b))) led):Cmp c A .LtE (.int a) (.int b) led Q:=.ii fun u_ u_ u_ u_ r=>le_int (jc r h)
theorem Cmp.gtI {a b:Int}{Q:D->Led->Prop} (h:Q (.bool (decide (a>b))) led):Cmp c A .Gt (.int a) (.int b) led Q:=.ii fun u_ u_ u_ u_ r=>gt_int (jc r h)
theorem Tru.int {a:Int}{Q:Bool->Led->Prop} (h:Q (a != 0) led):Tru c A (.int a) led Q:=fun u_ u_ u_ r x=>x.int' fun u_=>truthy_int (mkB r h)
theorem Bin.addS {a b:Str}{Q:D->Led->Prop} (hz:a.length+b.length<=sizeLine) (h:Q (.str (a++b)) led):Bin c A .Add (.str a) (.str b) led Q:=.ss fun u_ u_ u_ u_ r=>add_str (fun u_ u_=>mkS r h) hz
theorem Inp.addS {a b:Str}{Q:D->Led->Prop} (hz:a.length+b.length<=sizeLine) (h:Q (.str (a++b)) led):Inp c A .Add (.str a) (.str b) led Q:=.ss fun u_ u_ u_ u_ r=>iadd_str (fun u_ u_=>mkS r h) hz
theorem Cmp.eqS {a b:Str}{Q:D->Led->Prop} (h:Q (.bool (a == b)) led):Cmp c A .Eq (.str a) (.str b) led Q:=.ss fun u_ u_ u_ u_ r=>eq_str (jc r h)
theorem Cmp.neS {a b:Str}{Q:D->Led->Prop} (h:Q (.bool (a != b)) led):Cmp c A .NotEq (.str a) (.str b) led Q:=.ss fun u_ u_ u_ u_ r=>ne_str (jc r h)
noncomputable def D.isNone:D->Bool
 | .none=>true
 | _=>false
noncomputable def D.notVal:D->Bool
 | .val _=>false
 | _=>true
theorem AV.isNone {w:World}{Z:HP}{v:Value}{d:D} (h:AV w Z v d) (hd:d.notVal=true):(v == .none)=d.isNone:=by
 induction h using AV.casesOn with
 | val=>exact fT hd
 | _=>rfl
theorem Cmp.isN {d:D}{Q:D->Led->Prop} (hd:d.notVal=true) (h:Q (.bool d.isNone) led):Cmp c A .Is d .none led Q:=fun Z u_ v u_ r x y=>y.none' (is_none (by refine rP (x.isNone hd) ?_; exact jc r h))
noncomputable def eC (sl:Expr):Prop:=∀ o i,subscripted sl false o i=operate [o,i] (getItem o i)
theorem bx {a:Addr}{vs:List Value}{n:Nat}{h:Heap} (e:h.get? a=some (ci vs n)):h.IsList a vs.toArray:=⟨_,e,rfl,n,rfl⟩
theorem bL {a:Addr}{vs:List Value}{n:Nat}{h:Heap} (e:h.get? a=some (eY vs n)):IsTup h a vs.toArray:=⟨_,e,rfl,n,rfl⟩
theorem seqIx {i:Int}{n:Nat}{j:Nat} (h:(0<=i/\j=i.toNat/\i<n)\/(i<0/\-(n:Int)<=i/\j=(i+n).toNat)):seqIndex? i n=some j:=by
 unfold seqIndex?
 rcases h with ⟨h1,rfl,h3⟩ | ⟨h1,h2,rfl⟩
 ·simp only [show ¬ i<0 by exact Int.not_lt.2 h1,if_false]
  exact rP (aY (by simp only [Bool.and_eq_true,decide_eq_true_eq]; exact ⟨h1,h3⟩)) rfl
 ·simp only [h1,if_true]
  exact rP (aY (by simp only [Bool.and_eq_true,decide_eq_true_eq]; lia)) rfl
noncomputable def jN (i:Int) (n:Nat):Nat:=if 0<=i then i.toNat else (i+n).toNat
theorem ixOf_is {i:Int}{n:Nat} (h1:-(n:Int)<=i) (h2:i<n):seqIndex? i n=some (jN i n):=by
 unfold jN
 by_cases h:0<=i
 ·refine rP (aY h) ?_; exact seqIx (.inl ⟨h,rfl,h2⟩)
 ·refine rP (aX h) ?_; exact seqIx (.inr ⟨by exact Int.lt_of_not_ge h,h1,rfl⟩)
theorem gF {a:Addr}{vs:List Value}{n:Nat}{i:Int}{t:Tok}{x:Value}{Q:Value->Shared->Prop}{E:Value->Shared->Prop} (e:s.heap.get? a=some (ci vs n)) (h1:-(vs.length:Int)<=i) (h2:i<vs.length)
  (hz:vs.length<=sizeLine) (hx:vs[jN i vs.length]? = some x) (h:Q x s):wpAny c.M A (getItem (.ref a) (.int i t)) Q E s:=by
 have hz':vs.length<2 ^ 62:=by rw [ai] at hz; omega
 unfold jN at hx
 by_cases h0:0<=i
 ·rw [aY h0] at hx
  exact wpAny_getItem_list (bx e) h0 (by lia) (by simpa using hx) h
 ·rw [aX h0] at hx
  exact wpAny_getItem_list_neg (bx e) (by exact Int.lt_of_not_ge h0) (by simpa using h1) (by lia) (by simpa using hx) h
theorem Sub.lst {val sl:Expr}{ds:List D}{i:Int}{d:D}{Q:D->Led->Prop} (hs:eC sl) (hz:ds.length<=sizeLine) (h1:-(ds.length:Int)<=i) (h2:i<ds.length) (hd:ds[jN i ds.length]? = some d) (h:Q d led) :
  Sub c A val sl (.lst ds) (.int i) led Q:=fun Z s u_ u_ r x y=>by
 cases y using AV.eInt
 induction x using AV.eLst with
 | lst e a=>
  obtain ⟨v,hv,av⟩:=a.get hd
  have e':=r.zin _ _ e
  exact tail_any (bx e').typeIs slot_list_getitem.lookup (gF e' (by refine rP a.length ?_; exact h1) (by refine rP a.length ?_; exact h2) (by refine rP a.length ?_; exact hz) (by refine rP a.length ?_; exact hv) (mk1 r av h)) (hs _ _)
theorem Sub.lstL {val sl:Expr}{ds:List D}{a:Addr}{i:Int}{d:D}{Q:D->Led->Prop} (hs:eC sl) (hm:At led a (.lst ds)) (hz:ds.length<=sizeLine) (h1:-(ds.length:Int)<=i) (h2:i<ds.length) (hd:ds[jN i ds.length]? = some d) (h:Q d led) :
  Sub c A val sl (.ref a) (.int i) led Q:=fun Z s u_ u_ r x y=>by
 cases y using AV.eInt
 induction x using AV.eVal with
 | val=>
  obtain ⟨o,e',hx⟩:=r.at_ hm
  induction hx using Ch.On.eLst with
  | lst a=>
   obtain ⟨v,hv,av⟩:=a.get hd
   exact tail_any (bx e').typeIs slot_list_getitem.lookup (gF e' (by refine rP a.length ?_; exact h1) (by refine rP a.length ?_; exact h2) (by refine rP a.length ?_; exact hz) (by refine rP a.length ?_; exact hv) (mk1 r av h)) (hs _ _)
theorem Sub.tup {val sl:Expr}{ds:List D}{i:Int}{d:D}{Q:D->Led->Prop} (hs:eC sl) (hz:ds.length<=sizeLine) (h1:-(ds.length:Int)<=i) (h2:i<ds.length) (hd:ds[jN i ds.length]? = some d) (h:Q d led) :
  Sub c A val sl (.tup ds) (.int i) led Q:=fun Z s u_ u_ r x y=>by
 cases y using AV.eInt
 have hz':ds.length<2 ^ 62:=by rw [ai] at hz; omega
 induction x using AV.eTup with
 | tup e a=>
  obtain ⟨v,hv,av⟩:=a.get hd
  exact item_tupleT (bL (r.zin _ _ e)) (by lia) (by lia) (ixOf_is (by refine rP a.length ?_; exact h1) (by refine rP a.length ?_; exact h2)) (by refine rP a.length ?_; exact hv) (mk1 r av h) (hs _ _)
end
end
section
set_option tactic.hygienic true
section
variable {c:Cst}{A:Around}{env:Env}{led:Led}{Z Z':HP}{s:Shared}
noncomputable def Part (c:Cst) (A:Around) (env:Env) (e:Option Expr) (led:Led) (Q:Option Int->Led->Prop):Prop:=
 match e with
 | none=>Q none led
 | some e=>Ev c A env e led (PI Q)
theorem Part.of_none {Q:Option Int->Led->Prop} (h:Q none led):Part c A env none led Q:=h
theorem Part.of_some {e:Expr}{Q:Option Int->Led->Prop} (h:Ev c A env e led (PI Q)):Part c A env (some e) led Q:=h
theorem Part.run {e:Option Expr}{Q:Option Int->Led->Prop} (h:Part c A env e led Q) (r:R c Z led s) :
  wpAny c.M A (evalPart e env) (fun v s'=>∃ Z' led' o,Z.le Z'/\R c Z' led' s'/\IsPart v o/\Q o led') noE s:=by
 induction e with
 | none=>exact ab ⟨Z,led,none,.rfl,r,.none,h⟩
 | some e=>
  refine bD (h Z s r) fun Z1 led₁ s₁ v d h1 r1 a1 q1=>?_
  obtain ⟨i,rfl,q⟩:=q1
  cases a1 using AV.eInt
  exact ⟨Z1,led₁,some i,h1,r1,.int _ _,q⟩
theorem Ev.slice {l u k:Option Expr}{pos:Pos}{Q:D->Led->Prop} (h:Part c A env l led fun lo led₁=>Part c A env u led₁ fun hi led₂=>Part c A env k led₂ fun st led3=>Q (.slc lo hi st) led3):Ev c A env (.Slice l u k pos) led Q:=fun Z s r=>by
 refine wpAny_Slice (ac (h.run r) (fun v1 s₁ ⟨Z1,led₁,lo,h1,r1,p1,q1⟩=>ac (q1.run r1) (fun v2 s₂ ⟨Z₂,led₂,hi,h2,r2,p2,q2⟩=>ac (q2.run r2) (fun v3 s₃ ⟨Z3,led3,st,h3,r3,p3,q3⟩=>?_) noE.im) noE.im) noE.im)
 obtain ⟨hz,r4⟩:=r3.pushZ (o:=cw "slice" [v1,v2,v3]) rfl
 exact ⟨_,led3,_,((h1.trans h2).trans h3).trans hz,r4,.slc HP.sf p1 p2 p3,q3⟩
noncomputable def jQ (sl:Expr):Prop:=∀ o i,∃ ops,subscripted sl false o i=operate ops (getItem o i)
noncomputable def pick {α:Type} (l:List α) (lo hi st:Option Int):List α:=
 (sliceRange (sliceBounds lo hi st l.length).1 (sliceBounds lo hi st l.length).2.1 (sliceBounds lo hi st l.length).2.2).filterMap (l[·]?)
theorem AVs.atIdx {w:World}{Z:HP}{vs:List Value}{ds:List D} (h:AVs w Z vs ds):∀ (l:List Nat),AVs w Z (l.filterMap (vs[·]?)) (l.filterMap (ds[·]?))
 | []=>.nil
 | i::l=>by
  cases e:ds[i]? with
  | none=>
   have e2:vs[i]? = none:=by rw [List.getElem?_eq_none_iff] at e ⊢; refine rP h.length ?_; exact e
   refine rP (List.filterMap_cons_none e) (rP (List.filterMap_cons_none e2) ?_)
   exact h.atIdx l
  | some d=>
   obtain ⟨v,e2,a⟩:=h.get e
   refine rP (List.filterMap_cons_some e) (rP (List.filterMap_cons_some e2) ?_)
   exact .cons a (h.atIdx l)
theorem gv (vs:List Value) (lo hi st:Option Int):(slicePick vs.toArray lo hi st).toList=pick vs lo hi st:=by
 unfold slicePick pick
 simp -iota
theorem AVs.pick {w:World}{Z:HP}{vs:List Value}{ds:List D} (h:AVs w Z vs ds) (lo hi st:Option Int):AVs w Z (pick vs lo hi st) (Internal.pick ds lo hi st):=by
 unfold Internal.pick
 refine rP h.length ?_
 exact h.atIdx _
theorem Sub.lstS {val sl:Expr}{ds:List D}{lo hi st:Option Int}{Q:D->Led->Prop} (hs:jQ sl) (hz:ds.length<=sizeLine) (h0:st≠some 0) (h:Q (.lst (pick ds lo hi st)) led):Sub c A val sl (.lst ds) (.slc lo hi st) led Q:=fun Z s u_ u_ r x y=>by
 induction x using AV.eLst with
 | @lst _ vs _ e a=>
  induction y using AV.eSlc with
  | slc e1 p1 p2 p3=>
   obtain ⟨ops,hs⟩:=hs _ _
   have e':=r.zin _ _ e
   refine tail_any (bx e').typeIs slot_list_getitem.lookup (wpAny_getItem_list_slice (bx e') ⟨_,r.zin _ _ e1,rfl,rfl⟩ p1 p2 p3 h0 ?_ (by refine rP aE (rP a.length ?_); exact hz)) hs
   have e2:({ cls:=.type "list",data:=.seq (slicePick vs.toArray lo hi st) }:Obj)=ci (Internal.pick vs lo hi st) 0:=by
    exact rQ (gv _ _ _ _) rfl
   refine rP e2 ?_
   obtain ⟨hz,r2⟩:=r.pushZ (o:=ci (Internal.pick vs lo hi st) 0) rfl
   exact ⟨_,led,_,hz,r2,.lst HP.sf ((a.pick lo hi st).mono hz),h⟩
theorem Sub.strI {val sl:Expr}{x:Str}{i:Int}{Q:D->Led->Prop} (hs:eC sl) (hz:x.length<=sizeLine) (h1:-(x.length:Int)<=i) (h2:i<x.length) (h:Q (.str (Txt.item x i)) led):Sub c A val sl (.str x) (.int i) led Q:=fun Z s u_ u_ r a y=>by
 cases a using AV.eStr; cases y using AV.eInt
 rw [ai] at hz
 obtain ⟨T,id,hl,hT,hg⟩:=SB.item (prog:=c.prog) (w:=c.w) (A:=A) (E:=noE) (s:=s) (x:=x) (i:=i) (Q:=P1 c Z Q) (by unfold fitsSsize; simp -iota only [Bool.not_eq_true',Bool.or_eq_false_iff,decide_eq_false_iff_not]; lia) (charAt_isSome h1 h2) (mk1 (r.toks _) .str h)
 exact tail_any hT hl hg (hs _ _)
theorem Sub.strS {val sl:Expr}{x:Str}{lo hi:Option Int}{Q:D->Led->Prop} (hs:jQ sl) (hz:x.length<=sizeLine) (h:Q (.str (Txt.slice x lo hi)) led):Sub c A val sl (.str x) (.slc lo hi none) led Q:=fun Z s u_ u_ r a y=>by
 cases a using AV.eStr
 rename_i tx
 induction y using AV.eSlc with
 | @slc sa _ _ _ e1 p1 p2 p3=>
  obtain ⟨ops,hs⟩:=hs (.str x tx) (.ref sa)
  have e':=r.zin _ _ e1
  have key:∀ (l u:Option (Int×Tok)),s.heap.get? sa=some (cw "slice" [partValue l,partValue u,.none])->wpAny c.M A (getItem (.str x tx) (.ref sa)) (fun v s'=>∃ t k,v = .str (Txt.slice x (l.map (·.1)) (u.map (·.1))) t/\s'={ s with toks:=k }) noE s:=fun l u e=>by
   refine wpAny_getItem_str_slice (l:=l) (u:=u) (st:=none) ⟨_,e,rfl,rfl⟩ rfl (post_val_or_str ⟨Nat.le_trans (Txt.slice_le x _ _) hz,fun t' k=>⟨t',k,rfl,rfl⟩⟩)
  refine tail_any (typeIs_str _ _ _) F.slot_str_getitem.lookup ?_ hs
  cases p3
  have fin:∀ v s',(∃ t k,v = .str (Txt.slice x lo hi) t/\s'={ s with toks:=k })->P1 c Z Q v s':=fun v s' ⟨t,k,e1,e2⟩=>by
   subst e1 e2; exact mk1 (r.toks _) .str h
  induction p1 with
  | none=>
   induction p2 with
   | none=>exact ac (key none none e') fin noE.im
   | int j u=>exact ac (key none (some (j,u)) e') fin noE.im
  | int i t=>
   induction p2 with
   | none=>exact ac (key (some (i,t)) none e') fin noE.im
   | int j u=>exact ac (key (some (i,t)) (some (j,u)) e') fin noE.im
theorem clip_le (n:Nat) (i:Int):clipAt n i<=n:=Int.toNat_le.2 (Int.max_le.2 ⟨aW _,Int.min_le_right _ _⟩)
theorem clip_nat (n k:Nat):clipAt n (k:Int)=min k n:=by
 unfold clipAt
 refine rP (aX (Int.not_lt.2 (aW k))) ?_
 rcases Nat.le_total k n with h | h
 ·refine rP (Int.min_eq_left (Int.ofNat_le.2 h)) (rP (Nat.min_eq_left h) (rP (Int.max_eq_right (aW _)) ?_)); rfl
 ·refine rP (Int.min_eq_right (Int.ofNat_le.2 h)) (rP (Nat.min_eq_right h) (rP (Int.max_eq_right (aW _)) ?_)); rfl
theorem pick_run {α:Type}{l:List α}{lo hi:Option Int}:pick l lo hi none=(l.take (hi.elim l.length (clipAt l.length))).drop (lo.elim 0 (clipAt l.length)):=by
 unfold pick
 refine rP (sliceBounds_plain _ _ _) ?_
 generalize ha:lo.elim 0 (clipAt l.length)=a
 have hb:hi.elim l.length (clipAt l.length)<=l.length:=by
  induction hi with
  | none=>exact aC _
  | some i=>exact clip_le _ _
 generalize hi.elim l.length (clipAt l.length)=b at hb
 unfold sliceRange
 have e:(if (1:Int)>0 then (if (a:Int)<b then ((b:Int) - a+1 - 1) / 1 else 0) else (if (a:Int)>b then ((a:Int) - b - 1 - 1) / (-1) else 0)).toNat=b - a:=by
  refine rP (aY (by decide)) ?_
  split
  ·refine rP (Int.ediv_one _) (rP (Int.add_sub_cancel _ _) ?_); exact Int.toNat_sub b a
  ·rename_i q; exact (bg (Int.ofNat_le.1 (Int.not_lt.1 q))).symm
 dsimp only
 refine rP e ?_
 apply List.ext_getElem?
 intro j
 refine rP List.filterMap_map ?_
 have:∀ (n a:Nat),a+n<=l.length->(List.range n).filterMap ((fun x:Nat=>l[x]?)∘fun k:Nat=>((a:Int)+1*(k:Int)).toNat)=(l.drop a).take n:=by
  intro n a h
  induction n with
  | zero=>simp -iota
  | succ n ih=>
   refine rP List.range_succ (rP List.filterMap_append (rP (ih (by exact Nat.le_of_succ_le h)) (rP List.take_add_one ?_)))
   congr 1
   have e1:((a:Int)+1*(n:Int)).toNat=a+n:=by refine rP (Int.one_mul _) ?_; rfl
   simp -iota only [List.filterMap_cons,List.filterMap_nil,Function.comp,e1,List.getElem?_drop]
   refine rP (ao (by exact h)) ?_
   rfl
 by_cases h:a<=b
 ·exact rP (this (b - a) a (by rw [Nat.add_sub_cancel' h]; exact hb)) (rQ List.drop_take rfl)
 ·have e0:b - a=0:=bg (Nat.le_of_lt (Nat.lt_of_not_le h))
  refine rP e0 (rP (List.drop_eq_nil_of_le (by rw [List.length_take]; exact nT (Nat.le_succ_of_le (Nat.min_le_left _ _)) (Nat.lt_of_not_le h))) ?_)
  rfl
theorem mE {α:Type}{l:List α}{i:Int} (h:0<=i):pick l none (some i) none=l.take i.toNat:=by
 refine rP pick_run ?_
 refine (?_:(l.take (clipAt l.length i)).drop 0=_)
 obtain ⟨n,rfl⟩:=Int.eq_ofNat_of_zero_le h
 refine rP List.drop_zero (rP (clip_nat _ _) (rP (propext (List.take_eq_take_iff)) (rP (Nat.min_assoc _ _ _) (rP (Nat.min_self _) ?_))))
 rfl
theorem Bin.addL {a b:List D}{Q:D->Led->Prop} (hz:a.length+b.length<=sizeLine) (h:Q (.lst (a++b)) led):Bin c A .Add (.lst a) (.lst b) led Q:=fun Z s u_ u_ r x y=>by
 induction x using AV.eLst with
 | lst e1 a1=>
  induction y using AV.eLst with
  | lst e2 a2=>
   have e1':=r.zin _ _ e1
   have e2':=r.zin _ _ e2
   refine concat_meets ⟨_,e1',rfl⟩ ⟨_,e2',rfl⟩ noFill_list_add seq_list_add PySem.F.slot_list_add PySem.F.entry_list_add (PySem.F.args_list_add_2 _ _) (list_addW _ _ _ _ _ _ none none #[] #[] (by refine rP aE (rP aE (rP a1.length (rP a2.length ?_))); exact hz)) ⟨e1',e2',?_⟩
   refine rP (List.append_toArray _ _) ?_
   obtain ⟨hz,r2⟩:=r.pushZ (o:=ci (_++_) 0) rfl
   exact ⟨_,led,_,hz,r2,.lst HP.sf ((a1.append a2).mono hz),h⟩
theorem Bin.addT {a b:List D}{Q:D->Led->Prop} (hz:a.length+b.length<=sizeLine) (ha:a≠[]) (hb:b≠[]) (h:Q (.tup (a++b)) led):Bin c A .Add (.tup a) (.tup b) led Q:=fun Z s u_ u_ r x y=>by
 induction x using AV.eTup with
 | tup e1 a1=>
  induction y using AV.eTup with
  | tup e2 a2=>
   have e1':=r.zin _ _ e1
   have e2':=r.zin _ _ e2
   refine concat_meets ⟨_,e1',rfl⟩ ⟨_,e2',rfl⟩ noFill_tuple_add seq_tuple_add PySem.F.slot_tuple_add PySem.F.entry_tuple_add (PySem.F.args_tuple_add_2 _ _)
    (tuple_addW2 _ _ _ _ _ _ none none #[] #[] (by cases a1 <;> simp_all) (by cases a2 <;> simp_all) (by refine rP aE (rP aE (rP a1.length (rP a2.length ?_))); exact hz)) ⟨e1',e2',?_⟩
   refine rP (List.append_toArray _ _) ?_
   obtain ⟨hz,r2⟩:=r.pushZ (o:=eY (_++_) 0) rfl
   exact ⟨_,led,_,hz,r2,.tup HP.sf ((a1.append a2).mono hz),h⟩
end
end
section
noncomputable def Stp (c:Cst) (A:Around) (it:Value) (tgt:Expr) (full:Led) (Qn:Led->Prop) (Qs:D->Led->Prop):Prop:=
 ∀ Z s,R c Z full s->wpAny c.M A (pyNext it) (fun r s₁=>match r with
  | none=>PU c Z Qn () s₁
  | some v=>wpAny c.M A (letOwnedTupleGo tgt it v) (fun u_ s₂=>P1 c Z Qs v s₂) noE s₁) noE s
structure Cur (c:Cst) (A:Around) (tgt:Expr) (χ:List D->Ch) (I:Addr) (V:List D->Led->Prop):Prop where
 more:∀ d rest full full',V (d::rest) full->Up full I (χ (d::rest)) (χ rest) full'->Stp c A (.ref I) tgt full (fun u_=>False) (fun d' led'=>d'=d/\led'=full')
 done:∀ full full',V [] full->Take full I (χ []) full'->Stp c A (.ref I) tgt full (fun led'=>led'=full') (fun u_ u_=>False)
noncomputable def Slf (c:Cst) (A:Around) (χ:List D->Ch) (I:Addr):Prop:=∀ full ds,At full I (χ ds)->∀ Z s,R c Z full s->∀ Q:Value->Shared->Prop,Q (.ref I) s->wpAny c.M A (pyIter (.ref I)) Q noE s
section
variable {c:Cst}{A:Around}{env:Env}{led:Led}{Z Z':HP}{s:Shared}
noncomputable def Owns (T:String):Bool:=["enumerate","zip","dict_itemiterator","dict_reverseitemiterator","odict_iterator","itertools.zip_longest","itertools.pairwise"].contains T
theorem cp {tgt:Expr}{I:Addr}{v:Value}{o:Obj}{T:String}{Q:Unit->Shared->Prop}{E:Value->Shared->Prop} (ho:s.heap.get? I=some o) (hc:o.cls = .type T) (hT:Owns T=false) (h:Q () s) :
  wpAny c.M A (letOwnedTupleGo tgt (.ref I) v) Q E s:=by
 have key:∀ a,wpAny c.M A (do
   let o <- load I
   match o.cls,o.data with
   | .type n,.fields vs=>
    if ["enumerate","zip","dict_itemiterator","dict_reverseitemiterator","odict_iterator","itertools.zip_longest","itertools.pairwise"].contains n && vs[0]? == some (rawInt a) then
     rule "for.unpacks-the-owned-tuple"
     updateField I 0 .none
   | _,_=>pure ():Sem Unit) Q E s:=fun a=>by
  refine aa (wpAny_load ho ?_)
  refine rP hc ?_
  cases hd:o.data with
  | fields vs=>
   have e:(["enumerate","zip","dict_itemiterator","dict_reverseitemiterator","odict_iterator","itertools.zip_longest","itertools.pairwise"].contains T && vs[0]? == some (rawInt a))=false:=by
    unfold Owns at hT; refine rP hT ?_; rfl
   simp only [e]
   exact ab h
  | _=>exact ab h
 cases tgt with
 | Tuple=>induction v with
  | ref a=>exact key a
  | _=>exact ab h
 | List=>induction v with
  | ref a=>exact key a
  | _=>exact ab h
 | _=>exact ab h
theorem cF {α:Type}{l:List α}{k:Nat}{d:α}{rest:List α} (h:l.drop k=d::rest):l[k]? = some d/\l.drop (k+1)=rest:=by
 have h1:l[k]? = some d:=by
  have:=congrArg (·[0]?) h
  simpa using this
 refine ⟨h1,?_⟩
 refine rQ List.drop_drop (rP h ?_); rfl
theorem di {α:Type}{l:List α}{k:Nat} (h:l.drop k=[]):l[k]? = none:=by
 refine rP (propext (List.getElem?_eq_none_iff)) ?_; exact List.drop_eq_nil_iff.mp h
@[elab_as_elim] theorem AEs.ind {w:World}{Z:HP}{P:List DictEntry->List (Str×D)->Prop}{es:List DictEntry}{kvs:List (Str×D)} (h:AEs w Z es kvs) (nil:P [] [])
  (cons:∀ k t v d es kvs,AV w Z v d->AEs w Z es kvs->P es kvs->P (⟨hashStr w k,.str k t,v⟩::es) ((k,d)::kvs)):P es kvs:=
 AEs.rec (motive_1:=fun u_ u_ u_=>True) (motive_2:=fun u_ u_ u_=>True) (motive_3:=fun es kvs u_=>P es kvs) trivial trivial trivial trivial trivial (fun u_ u_ u_=>trivial) (fun u_ u_ u_=>trivial) (fun u_ u_ u_ u_ u_=>trivial) (fun u_ u_ u_ u_=>trivial) (fun u_=>trivial) (fun u_ u_ u_ u_ u_=>trivial) (fun u_ u_ u_ u_ u_=>trivial) (fun u_=>trivial) (fun u_ u_ u_=>trivial) (fun u_ u_ u_ u_ u_ u_=>trivial) trivial (fun u_ u_ u_ u_=>trivial) nil (fun a r u_ ih=>cons _ _ _ _ _ _ a r ih) h
theorem kvInd {w:World}{Z:HP}{P:List (Str×Value)->List (Str×D)->Prop} (nil:P [] []) (cons:∀ k v d kv kvs,AV w Z v d->P kv kvs->P ((k,v)::kv) ((k,d)::kvs)){kv:List (Str×Value)} :
  ∀ {kvs:List (Str×D)},kv.map (·.1)=kvs.map (·.1)->AVs w Z (kv.map (·.2)) (kvs.map (·.2))->P kv kvs:=by
 induction kv with
 | nil=>
  intro kvs e a
  induction kvs using List.casesOn with
  | nil=>exact nil
  | cons=>exact nC e
 | cons p kv ih=>
  intro kvs e a
  induction kvs using List.casesOn with
  | nil=>exact cN' e
  | cons q kvs=>
   have a:AVs w Z (p.2::kv.map (·.2)) (q.2::kvs.map (·.2)):=a
   have e:p.1::kv.map (·.1)=q.1::kvs.map (·.1):=e
   cases a with
   | cons a b=>
    refine (?_:P ((p.1,p.2)::kv) ((q.1,q.2)::kvs))
    exact rP (List.cons.inj e).1 (cons _ _ _ _ _ a (ih (List.cons.inj e).2 b))
theorem lC {prog:Program}{w:World}{k:Str}{t:Tok}:(strKind prog w).is k (.str k t)=true:=by refine (?_:Value.isStrOf k (.str k t)=true); simp [Value.isStrOf]
inductive Kv (w:World) (Z:HP) (prog:Program) (es:List DictEntry) (kvs:List (Str×D)):Prop
 | mk (kv:List (Str×Value)):kv.map (·.1)=kvs.map (·.1)->Pairs (strKind prog w) es kv->(∀ e∈es,∃ k,(strKind prog w).is k e.key=true/\e.hash=(strKind prog w).hash k)->AVs w Z (kv.map (·.2)) (kvs.map (·.2))->Kv w Z prog es kvs
theorem AEs.vals {w:World}{Z:HP}{prog:Program}{es:List DictEntry}{kvs:List (Str×D)} (x:AEs w Z es kvs):Kv w Z prog es kvs:=by
 refine x.ind ⟨[],rfl,.nil,(fun u_ h=>nomatch h),.nil⟩ ?_
 intro k t v d es kvs a r y
 obtain ⟨kv,h1,h3,h4,h5⟩:=y
 refine ⟨(k,v)::kv,congrArg (List.cons k) h1,.cons lC rfl h3,?_,.cons a h5⟩
 intro e he
 rcases List.mem_cons.mp he with he | he
 ·exact ⟨k,rP he lC,rP he rfl⟩
 ·exact h4 e he
theorem kvGet {w:World}{Z:HP}{kv:List (Str×Value)}{kvs:List (Str×D)} (h1:kv.map (·.1)=kvs.map (·.1)) (h5:AVs w Z (kv.map (·.2)) (kvs.map (·.2))):∀ (i:Nat) (k:Str) (d:D),kvs[i]? = some (k,d)->∃ v,kv[i]? = some (k,v)/\AV w Z v d:=
 kvInd (P:=fun kv kvs=>∀ (i:Nat) (k:Str) (d:D),kvs[i]? = some (k,d)->∃ v,kv[i]? = some (k,v)/\AV w Z v d) (fun u_ u_ u_ e=>nS e) (fun k v d kv kvs a ih i k' d' e=>by
  induction i using Nat.casesAuxOn with
  | zero=>cases e; exact ⟨v,rfl,a⟩
  | succ i=>exact ih i k' d' e) h1 h5
inductive Ka (h:Heap) (a:Addr) (n:Nat) (w:World) (Z:HP) (prog:Program) (kvs:List (Str×D)):Prop
 | mk (kv:List (Str×Value)):h.DictAt (strKind prog w) a kv n->kv.length=kvs.length->kv.map (·.1)=kvs.map (·.1)->(∀ (i:Nat) (k:Str) (d:D),kvs[i]? = some (k,d)->∃ v,kv[i]? = some (k,v)/\AV w Z v d)->Ka h a n w Z prog kvs
theorem fu {h:Heap}{a:Addr}{es:List DictEntry}{n:Nat}{kvs:List (Str×D)} (prog:Program){w:World}{Z:HP} (e:h.get? a=some (eR es n)) (x:AEs w Z es kvs) (hn:(kvs.map (·.1)).Nodup):Ka h a n w Z prog kvs:=by
 obtain ⟨kv,h1,h3,h4,h5⟩:=x.vals (prog:=prog)
 exact ⟨kv,⟨_,es.toArray,e,⟨rfl,rfl,rfl⟩,rfl,fun e he=>h4 e he.val,h3,rP h1 hn⟩,(am _).symm.trans (h5.length.trans (am _)),h1,kvGet h1 h5⟩
noncomputable def Ch.itM (w:World) (Z:HP) (M:(l:List D)->(o:Obj)->Ch.On w Z (.it l) o->Prop) (N:(l:List D)->(o:Obj)->Ch.On w Z (.itI l) o->Prop) (o:Obj):(x:Ch)->Ch.On w Z x o->Prop
 | .it l=>M l o
 | .itI l=>N l o
 | _=>fun u_=>True
theorem Ch.On.eIt {w:World}{Z:HP}{M:(l:List D)->(o:Obj)->Ch.On w Z (.it l) o->Prop}
  (itLst:∀ {o:Obj}{l:Addr} {k n vs ds} (h1:o.cls = .type "list_iterator") (h2:o.data = .fields #[.ref l,.int (k:Nat) 0]) (h3:Z l=some (ci vs n)) (h4:AVs w Z vs ds),M (ds.drop k) o (.itLst h1 h2 h3 h4))
  (itTup:∀ {o:Obj}{l:Addr} {k n vs ds} (h1:o.cls = .type "tuple_iterator") (h2:o.data = .fields #[.ref l,.int (k:Nat) 0]) (h3:Z l=some (eY vs n)) (h4:AVs w Z vs ds),M (ds.drop k) o (.itTup h1 h2 h3 h4))
  (itRng:∀ {x left},M _ _ (.itRng (x:=x) (left:=left)))
  (itStrA:∀ {o:Obj} {x t k} (h1:o.cls = .type "str_ascii_iterator") (h2:o.data = .fields #[.str x t,.int (k:Nat) 0]),M _ o (.itStrA h1 h2))
  (itStrW:∀ {o:Obj} {x t k} (h1:o.cls = .type "str_iterator") (h2:o.data = .fields #[.str x t,.int (k:Nat) 0]),M _ o (.itStrW h1 h2))
  (itVws:∀ {o:Obj}{d:Addr} {es n k}{kvs:List (Str×D)} (h1:o.cls = .type "dict_valueiterator") (h2:o.data = .fields #[.ref d,.int (k:Nat) 0,.int kvs.length 0,.int (n:Nat) 0]) (h3:Z d=some (eR es n)) (h4:AEs w Z es kvs) (h5:(kvs.map (·.1)).Nodup),M _ o (.itVws h1 h2 h3 h4 h5))
  {l:List D}{o:Obj} (a:Ch.On w Z (.it l) o):M l o a:=by
 have k:∀ {x o} (a:Ch.On w Z x o),Ch.itM w Z M (fun u_ u_ u_=>True) o x a:=by
  intro x o a
  induction a with
  | itLst a b c d=>exact itLst a b c d
  | itTup a b c d=>exact itTup a b c d
  | itRng=>exact itRng
  | itStrA a b=>exact itStrA a b
  | itStrW a b=>exact itStrW a b
  | itVws a b c d e=>exact itVws a b c d e
  | _=>trivial
 exact k a
theorem Ch.On.eItI {w:World}{Z:HP}{M:(l:List D)->(o:Obj)->Ch.On w Z (.itI l) o->Prop}
  (itIts:∀ {d:Addr} {es n k}{kvs:List (Str×D)} {ok ov} (h3:Z d=some (eR es n)) (h4:AEs w Z es kvs) (h5:(kvs.map (·.1)).Nodup),M _ _ (.itIts (k:=k) (ok:=ok) (ov:=ov) h3 h4 h5))
  {l:List D}{o:Obj} (a:Ch.On w Z (.itI l) o):M l o a:=by
 have k:∀ {x o} (a:Ch.On w Z x o),Ch.itM w Z (fun u_ u_ u_=>True) M o x a:=by
  intro x o a
  induction a with
  | itIts a b c=>exact itIts a b c
  | _=>trivial
 exact k a
theorem mF {l:Int}{m:Nat} (h:l.toNat=m+1):0<l/\(l - 1).toNat=m:=by
 induction l with
 | ofNat k=>
  have e:k=m+1:=h
  subst e
  exact ⟨Int.ofNat_lt.2 (Nat.succ_pos m),congrArg Int.toNat (prC m)⟩
 | negSucc k=>exact zS h
theorem Cur.it (hh:A.handled=none) (tgt:Expr) (I:Addr):Cur c A tgt .it I (fun u_ u_=>True) where
 more:=fun d rest full full' u_ u Z s r=>by
  obtain ⟨o,ho,hx⟩:=r.at_ u.at
  generalize hl:d::rest=l at hx
  cases hx using Ch.On.eIt with
  | @itLst _ la k n vs ds h1 h2 h3 h4=>
   obtain ⟨e1,e2⟩:=cF hl.symm
   obtain ⟨v,hv,av⟩:=h4.get e1
   have e3:=r.zin _ _ h3
   refine wpAny_pyNext_list_item ⟨o,ho,h1,h2⟩ (bx e3) (by simpa using hv) fun h' hit hs=>?_
   obtain ⟨o',ho',hc',hd'⟩:=hit
   have r2:=r.turn (t:=s.toks) u hs ho' (by refine rQ e2 ?_; exact .itLst hc' hd' h3 h4)
   exact cp (c:=c) ho' hc' rfl (mk1 r2 av ⟨rfl,rfl⟩)
  | @itTup _ la k n vs ds h1 h2 h3 h4=>
   obtain ⟨e1,e2⟩:=cF hl.symm
   obtain ⟨v,hv,av⟩:=h4.get e1
   have e3:=r.zin _ _ h3
   refine wpAny_pyNext_tuple_item ⟨o,ho,h1,h2⟩ ⟨_,e3,rfl,n,rfl⟩ (by simpa using hv) fun h' hit hs=>?_
   obtain ⟨o',ho',hc',hd'⟩:=hit
   have r2:=r.turn (t:=s.toks) u hs ho' (by refine rQ e2 ?_; exact .itTup hc' hd' h3 h4)
   exact cp (c:=c) ho' hc' rfl (mk1 r2 av ⟨rfl,rfl⟩)
  | @itRng x left=>
   have hp:0<left.toNat:=by
    rcases Nat.eq_zero_or_pos left.toNat with q | q
    ·rw [q] at hl; exact cN' hl
    ·exact q
   obtain ⟨m,hm⟩:∃ m,left.toNat=m+1:=⟨left.toNat - 1,by exact Nat.succ_sub hp⟩
   rw [hm,List.range_succ_eq_map,aA,aG] at hl
   injection hl with e1 e2
   have hp:=mF hm
   refine wpAny_pyNext_range_item ho hp.1 fun h' hit hs=>?_
   have r2:=r.turn (t:=s.toks+1) u hs hit (by
    have e3:rest=(List.range (left - 1).toNat).map fun j:Nat=>D.int (x+1+(j:Int)):=by
     refine rP e2 (rP hp.2 ?_)
     refine aP fun j u_=>?_
     refine (?_:D.int (x+((j+1:Nat):Int))=_)
     exact rP (Int.natCast_succ _) (rP (Int.add_comm (j:Int) 1) (rP (Int.add_assoc _ _ _) rfl))
    refine rP e3 ?_; exact .itRng)
   exact cp (c:=c) hit rfl rfl (mk1 r2 .int ⟨by refine rP e1 ?_; simp,rfl⟩)
  | @itStrA _ x t k h1 h2=>
   rw [List.map_drop] at hl
   obtain ⟨e1,e2⟩:=cF hl.symm
   rw [aK] at e1
   obtain ⟨ch,hc,rfl⟩:=Option.map_eq_some_iff.mp e1
   refine wpAny_pyNext_ascii_item ⟨o,ho,h1,h2⟩ (by simpa using hc) fun h' hit hs=>?_
   obtain ⟨o',ho',hc',hd'⟩:=hit
   have r2:=r.turn (t:=s.toks+1) u hs ho' (by refine rQ e2 (rQ List.map_drop ?_); exact .itStrA hc' hd')
   exact cp (c:=c) ho' hc' rfl (mk1 r2 .str ⟨rfl,rfl⟩)
  | @itStrW _ x t k h1 h2=>
   rw [List.map_drop] at hl
   obtain ⟨e1,e2⟩:=cF hl.symm
   rw [aK] at e1
   obtain ⟨ch,hc,rfl⟩:=Option.map_eq_some_iff.mp e1
   refine wpAny_pyNext_wide_item ⟨o,ho,h1,h2⟩ (by simpa using hc) fun h' hit hs=>?_
   obtain ⟨o',ho',hc',hd'⟩:=hit
   have r2:=r.turn (t:=s.toks+1) u hs ho' (by refine rQ e2 (rQ List.map_drop ?_); exact .itStrW hc' hd')
   exact cp (c:=c) ho' hc' rfl (mk1 r2 .str ⟨rfl,rfl⟩)
  | @itVws _ da es n k kvs h1 h2 h3 h4 h5=>
   rw [List.map_drop] at hl
   obtain ⟨e1,e2⟩:=cF hl.symm
   rw [aK] at e1
   obtain ⟨⟨key,dd⟩,hc,rfl⟩:=Option.map_eq_some_iff.mp e1
   obtain ⟨kv,g1,g2,g3,g4⟩:=fu c.prog (r.zin _ _ h3) h4 h5
   obtain ⟨v,hv,av⟩:=g4 _ _ _ hc
   rw [<- g2] at h2
   refine wpAny_pyNext_values_item ⟨o,ho,h1,h2⟩ g1 hv fun h' hit hs=>?_
   obtain ⟨o',ho',hc',hd'⟩:=hit
   rw [g2] at hd'
   have r2:=r.turn (t:=s.toks) u hs ho' (by refine rQ e2 (rQ List.map_drop ?_); exact .itVws hc' hd' h3 h4 h5)
   exact cp (c:=c) ho' hc' rfl (mk1 r2 av ⟨rfl,rfl⟩)
 done:=fun full full' u_ u Z s r=>by
  obtain ⟨o,ho,hx⟩:=r.at_ u.at
  generalize hl:([]:List D)=l at hx
  cases hx using Ch.On.eIt with
  | @itLst _ la k n vs ds h1 h2 h3 h4=>
   refine wpAny_pyNext_list_end hh ⟨o,ho,h1,h2⟩ (bx (r.zin _ _ h3)) ?_ fun h' hs=>mkU (r.lose (t:=s.toks) u hs) rfl
   have:=di hl.symm
   rw [List.getElem?_eq_none_iff] at this
   refine rP List.getElem?_toArray (rP (propext (List.getElem?_eq_none_iff)) (rP h4.length ?_)); exact this
  | @itTup _ la k n vs ds h1 h2 h3 h4=>
   refine wpAny_pyNext_tuple_end hh ⟨o,ho,h1,h2⟩ ⟨_,r.zin _ _ h3,rfl,n,rfl⟩ ?_ fun h' hs=>mkU (r.lose (t:=s.toks) u hs) rfl
   have:=di hl.symm
   rw [List.getElem?_eq_none_iff] at this
   refine rP List.getElem?_toArray (rP (propext (List.getElem?_eq_none_iff)) (rP h4.length ?_)); exact this
  | @itRng x left=>
   refine wpAny_pyNext_range_end hh ho ?_ fun h' hs=>mkU (r.lose (t:=s.toks) u hs) rfl
   have:=congrArg List.length hl
   rw [am,aM] at this
   simp at this
   lia
  | @itStrA _ x t k h1 h2=>
   refine wpAny_pyNext_ascii_end hh ⟨o,ho,h1,h2⟩ ?_ fun h' hs=>mkU (r.lose (t:=s.toks) u hs) rfl
   rw [List.map_drop] at hl
   have:=di hl.symm
   simpa using this
  | @itStrW _ x t k h1 h2=>
   refine wpAny_pyNext_wide_end hh ⟨o,ho,h1,h2⟩ ?_ fun h' hs=>mkU (r.lose (t:=s.toks) u hs) rfl
   rw [List.map_drop] at hl
   have:=di hl.symm
   simpa using this
  | @itVws _ da es n k kvs h1 h2 h3 h4 h5=>
   obtain ⟨kv,g1,g2,g3,g4⟩:=fu c.prog (r.zin _ _ h3) h4 h5
   rw [<- g2] at h2
   refine wpAny_pyNext_values_end hh ⟨o,ho,h1,h2⟩ g1 ?_ fun h' hs=>mkU (r.lose (t:=s.toks) u hs) rfl
   rw [List.map_drop] at hl
   have:=di hl.symm
   rw [aK,Option.map_eq_none_iff,List.getElem?_eq_none_iff] at this
   refine rP (propext (List.getElem?_eq_none_iff)) (rP g2 ?_); exact this
theorem Slf.it (I:Addr):Slf c A .it I:=fun full ds u Z s r Q q=>by
  obtain ⟨o,ho,hx⟩:=r.at_ u
  cases hx using Ch.On.eIt with
  | @itLst _ la k n vs ds h1 h2 h3 h4=>exact wpAny_pyIter_listiter ⟨o,ho,h1,h2⟩ q
  | @itTup _ la k n vs ds h1 h2 h3 h4=>exact wpAny_pyIter_tupleiter ⟨o,ho,h1,h2⟩ q
  | @itRng x left=>exact wpAny_pyIter_rangeiter ho q
  | @itStrA _ x t k h1 h2=>exact wpAny_pyIter_striter_ascii ⟨o,ho,h1,h2⟩ q
  | @itStrW _ x t k h1 h2=>exact wpAny_pyIter_striter_wide ⟨o,ho,h1,h2⟩ q
  | @itVws _ da es n k kvs h1 h2 h3 h4 h5=>exact wpAny_pyIter_valiter ⟨o,ho,h1,h2⟩ q
theorem Cur.itI (hh:A.handled=none) (elts:List Expr) (x1:Nat) (pos:Pos) (I:Addr):Cur c A (.Tuple elts x1 pos) .itI I (fun u_ u_=>True) where
 more:=fun d rest full full' u_ u Z s r=>by
  obtain ⟨o,ho,hx⟩:=r.at_ u.at
  generalize hl:d::rest=l at hx
  induction hx using Ch.On.eItI with
  | @itIts da es n k kvs ok ov h3 h4 h5=>
   rw [List.map_drop] at hl
   obtain ⟨e1,e2⟩:=cF hl.symm
   rw [aK] at e1
   obtain ⟨⟨key,dd⟩,hc,rfl⟩:=Option.map_eq_some_iff.mp e1
   obtain ⟨kv,g1,g2,g3,g4⟩:=fu c.prog (r.zin _ _ h3) h4 h5
   obtain ⟨v,hv,av⟩:=g4 _ _ _ hc
   have hit:IsItemIter s.heap I da k kv.length n ok ov:=by refine rP g2 ?_; exact ho
   refine wpAny_pyNext_items_item hit g1 hv fun key' h' hk hit' ht hsz hkp=>?_
   obtain ⟨tk,rfl⟩:∃ t,key' = .str key t:=by
    have hk:Value.isStrOf key key'=true:=hk
    cases key' <;> simp [Value.isStrOf] at hk
    exact ⟨_,by exact rP hk rfl⟩
   refine wpAny_letOwnedTupleGo_items hit' fun h'' hi'' hs''=>?_
   rw [g2] at hi''
   have ne:s.heap.objs.size≠I:=fun q=>by have:=br ho; rw [q] at this; exact Nat.lt_irrefl _ this
   have r2:=r.turnX (t:=s.toks) u (fun b o' hb e=>(hs''.2 b hb).trans (hkp b o' hb e)) hi'' (by refine rQ e2 (rQ List.map_drop ?_); exact .itIts h3 h4 h5)
   have hnl:=r.awayL (R.none_of_ge (aC s.heap.objs.size))
   obtain ⟨hz,r3⟩:=r2.addZ (a:=s.heap.objs.size) ((hs''.2 _ ne).trans ht) r.fresh (by refine rP u.keys ?_; exact hnl)
   exact ⟨_,full',_,hz,r3,.tup (vs:=[.str key tk,v]) (n:=0) HP.sf (.cons .str (.cons (av.mono hz) .nil)),rfl,rfl⟩
 done:=fun full full' u_ u Z s r=>by
  obtain ⟨o,ho,hx⟩:=r.at_ u.at
  generalize hl:([]:List D)=l at hx
  induction hx using Ch.On.eItI with
  | @itIts da es n k kvs ok ov h3 h4 h5=>
   obtain ⟨kv,g1,g2,g3,g4⟩:=fu c.prog (r.zin _ _ h3) h4 h5
   have hit:IsItemIter s.heap I da k kv.length n ok ov:=by refine rP g2 ?_; exact ho
   refine wpAny_pyNext_items_end hh hit g1 ?_ fun h' hs=>mkU (r.lose (t:=s.toks) u hs) rfl
   rw [List.map_drop] at hl
   have:=di hl.symm
   rw [aK,Option.map_eq_none_iff,List.getElem?_eq_none_iff] at this
   refine rP (propext (List.getElem?_eq_none_iff)) (rP g2 ?_); exact this
end
end
section
section
variable {c:Cst}{A:Around}{env:Env}{led:Led}{Z Z':HP}{s:Shared}
noncomputable def mG (l:Addr) (n:Nat) (ds:List D):Ch:=.itL l (n - ds.length)
theorem Cur.itL (hh:A.handled=none) (tgt:Expr) (I l:Addr) (all:List D):Cur c A tgt (mG l all.length) I (fun ds full=>At full l (.lst all)/\ds <:+ all) where
 more:=fun d rest full full' ⟨hl,pre,he⟩ u Z s r=>by
  obtain ⟨o,ho,hx⟩:=r.at_ u.at
  obtain ⟨ol,hol,hxl⟩:=r.at_ hl
  have hk:all.length - (d::rest).length=pre.length:=by refine rQ he (rP aH ?_); exact Nat.add_sub_cancel ..
  have hk':all.length - rest.length=pre.length+1:=by refine rQ he (rP aH (rP aJ ?_)); exact asc1
  unfold mG at hx u
  rw [hk] at hx u
  rw [hk'] at u
  cases hx using Ch.On.eItL with
  | itL h1 h2=>
   cases hxl using Ch.On.eLst with
   | lst a=>
    obtain ⟨v,hv,av⟩:=a.get (i:=pre.length) (d:=d) (by refine rQ he ?_; simp)
    refine wpAny_pyNext_list_item ⟨o,ho,h1,h2⟩ (bx hol) (by simpa using hv) fun h' hit hs=>?_
    obtain ⟨o',ho',hc',hd'⟩:=hit
    have r2:=r.turn (t:=s.toks) u hs ho' (.itL hc' hd')
    exact cp (c:=c) ho' hc' rfl (mk1 r2 av ⟨rfl,rfl⟩)
 done:=fun full full' ⟨hl,_⟩ u Z s r=>by
  obtain ⟨o,ho,hx⟩:=r.at_ u.at
  obtain ⟨ol,hol,hxl⟩:=r.at_ hl
  unfold mG at hx
  cases hx using Ch.On.eItL with
  | itL h1 h2=>
   cases hxl using Ch.On.eLst with
   | lst a=>
    refine wpAny_pyNext_list_end hh ⟨o,ho,h1,h2⟩ (bx hol) ?_ fun h' hs=>mkU (r.lose (t:=s.toks) u hs) rfl
    refine rP List.getElem?_toArray (rP (propext (List.getElem?_eq_none_iff)) (rP a.length ?_)); simp
theorem Slf.itL (I l:Addr) (n:Nat):Slf c A (mG l n) I:=fun full ds u Z s r Q q=>by
 obtain ⟨o,ho,hx⟩:=r.at_ u
 unfold mG at hx
 cases hx using Ch.On.eItL with
 | itL h1 h2=>exact wpAny_pyIter_listiter ⟨o,ho,h1,h2⟩ q
theorem Itr.lst {ds:List D}{Q:D->Led->Prop} (h:∀ I,Q (.ref I) ((I,.it ds)::led)):Itr c A (.lst ds) led Q:=fun Z s v r a=>by
 induction a using AV.eLst with
 | @lst l vs n e a=>
  refine wpAny_pyIter_list (bx (r.zin _ _ e)) ⟨Z,_,_,.rfl,r.push (o:=cw "list_iterator" [.ref l,.int 0 0]) (x:=.it ds) ?_,.val,h _⟩
  have:=Ch.On.itLst (w:=c.w) (Z:=Z) (o:=cw "list_iterator" [.ref l,.int (0:Nat) 0]) (k:=0) rfl rfl e a
  simpa using this
theorem Itr.tup {ds:List D}{Q:D->Led->Prop} (h:∀ I,Q (.ref I) ((I,.it ds)::led)):Itr c A (.tup ds) led Q:=fun Z s v r a=>by
 induction a using AV.eTup with
 | @tup l vs n e a=>
  refine wpAny_pyIter_tuple ⟨_,r.zin _ _ e,rfl,n,rfl⟩ ⟨Z,_,_,.rfl,r.push (o:=cw "tuple_iterator" [.ref l,.int 0 0]) (x:=.it ds) ?_,.val,h _⟩
  have:=Ch.On.itTup (w:=c.w) (Z:=Z) (o:=cw "tuple_iterator" [.ref l,.int (0:Nat) 0]) (k:=0) rfl rfl e a
  simpa using this
noncomputable def rngL (lo hi:Int):List D:=(List.range (hi - lo).toNat).map fun j:Nat=>.int (lo+(j:Int))
theorem jR {a b:Int} (ha:-(2 ^ 62)<=a) (ha':a<2 ^ 62) (hb:-(2 ^ 62)<=b) (hb':b<2 ^ 62):Builtin.Range.small a b 1=true/\(Builtin.Range.rangeSize a b 1).toNat=(b - a).toNat:=by
 have e:Builtin.Range.rangeSize a b 1=if a<b then b - a else 0:=by
  unfold Builtin.Range.rangeSize
  simp only [show ((1:Int)>0)=True from by simp,if_true]
  split
  ·refine rP (Int.ediv_one _) ?_; exact Int.add_sub_cancel _ _
  ·rfl
 constructor
 ·unfold Builtin.Range.small
  refine rP e ?_
  unfold Builtin.Range.rangeFitsLong
  simp only [Bool.and_eq_true,decide_eq_true_eq,Bool.or_eq_true,show ((1:Int)>0)=True from by simp,if_true]
  split <;> (refine ⟨⟨⟨⟨⟨by exact Int.le_trans (by decide) ha,by exact bo (Int.le_of_lt ha') (by decide)⟩,⟨by exact Int.le_trans (by decide) hb,by exact bo (Int.le_of_lt hb') (by decide)⟩⟩,⟨by decide,by decide⟩⟩,⟨by lia,by lia⟩⟩,.inr ⟨by lia,by omega⟩⟩)
 ·refine rP e ?_; split <;> lia
theorem Itr.rng {lo hi:Int}{Q:D->Led->Prop} (ha:-(2 ^ 62)<=lo) (ha':lo<2 ^ 62) (hb:-(2 ^ 62)<=hi) (hb':hi<2 ^ 62) (h:∀ I,Q (.ref I) ((I,.it (rngL lo hi))::led)):Itr c A (.rng lo hi) led Q:=fun Z s v r a=>by
 induction a using AV.eRng with
 | @rng l t u v e=>
  obtain ⟨h1,h2⟩:=jR ha ha' hb hb'
  refine wpAny_pyIter_range (r.zin _ _ e) h1 ⟨Z,_,_,.rfl,r.push (x:=.it (rngL lo hi)) ?_,.val,h _⟩
  unfold rngL
  refine rQ h2 ?_
  exact .itRng
theorem Itr.str {x:Str}{Q:D->Led->Prop} (h:∀ I,Q (.ref I) ((I,.it (x.cps.toList.map fun ch=>.str ⟨#[ch]⟩))::led)):Itr c A (.str x) led Q:=fun Z s v r a=>by
 induction a using AV.eStr with
 | @str t=>
  cases ha:x.cps.all (· < 128) with
  | true=>
   refine wpAny_pyIter_ascii ha ⟨Z,_,_,.rfl,r.push (o:=cw "str_ascii_iterator" [.str x t,.int 0 0]) (x:=.it _) ?_,.val,h _⟩
   have:=Ch.On.itStrA (w:=c.w) (Z:=Z) (o:=cw "str_ascii_iterator" [.str x t,.int (0:Nat) 0]) (x:=x) (k:=0) rfl rfl
   simpa using this
  | false=>
   refine wpAny_pyIter_wide ha ⟨Z,_,_,.rfl,r.push (o:=cw "str_iterator" [.str x t,.int 0 0]) (x:=.it _) ?_,.val,h _⟩
   have:=Ch.On.itStrW (w:=c.w) (Z:=Z) (o:=cw "str_iterator" [.str x t,.int (0:Nat) 0]) (x:=x) (k:=0) rfl rfl
   simpa using this
theorem Itr.its {kvs:List (Str×D)}{Q:D->Led->Prop} (h:∀ I,Q (.ref I) ((I,.itI (kvs.map fun p=>.tup [.str p.1,p.2]))::led)):Itr c A (.its kvs) led Q:=fun Z s v r a=>by
 induction a using AV.eIts with
 | @its l da es n e1 e2 a hn=>
  obtain ⟨kv,g1,g2,g3,g4⟩:=fu c.prog (r.zin _ _ e2) a hn
  refine wpAny_pyIter_items ⟨_,r.zin _ _ e1,rfl,rfl⟩ g1 ⟨Z,_,_,.rfl,r.push (o:=cw "dict_itemiterator" [.none,.bool false,.ref da,.int 0 0,.int kv.length 0,.int n 0,.none,.none]) (x:=.itI _) ?_,.val,h _⟩
  have:=Ch.On.itIts (w:=c.w) (Z:=Z) (k:=0) (ok:=.none) (ov:=.none) e2 a hn
  refine rP g2 ?_
  simpa using this
theorem Itr.vws {kvs:List (Str×D)}{Q:D->Led->Prop} (h:∀ I,Q (.ref I) ((I,.it (kvs.map fun p=>p.2))::led)):Itr c A (.vws kvs) led Q:=fun Z s v r a=>by
 induction a using AV.eVws with
 | @vws l da es n e1 e2 a hn=>
  obtain ⟨kv,g1,g2,g3,g4⟩:=fu c.prog (r.zin _ _ e2) a hn
  refine wpAny_pyIter_values ⟨_,r.zin _ _ e1,rfl,rfl⟩ g1 ⟨Z,_,_,.rfl,r.push (o:=cw "dict_valueiterator" [.ref da,.int 0 0,.int kv.length 0,.int n 0]) (x:=.it _) ?_,.val,h _⟩
  have:=Ch.On.itVws (w:=c.w) (Z:=Z) (o:=cw "dict_valueiterator" [.ref da,.int (0:Nat) 0,.int kvs.length 0,.int n 0]) (k:=0) rfl rfl e2 a hn
  refine rP g2 ?_
  simpa using this
theorem Itr.lstL {l:Addr}{ds:List D}{Q:D->Led->Prop} (hm:At led l (.lst ds)) (h:∀ I,Q (.ref I) ((I,.itL l 0)::led)):Itr c A (.ref l) led Q:=fun Z s v r a=>by
 induction a using AV.eVal with
 | val=>
  obtain ⟨o,ho,hx⟩:=r.at_ hm
  induction hx using Ch.On.eLst with
  | lst a=>
   refine wpAny_pyIter_list (bx ho) ⟨Z,_,_,.rfl,r.push (o:=cw "list_iterator" [.ref l,.int 0 0]) (x:=.itL l 0) ?_,.val,h _⟩
   exact Ch.On.itL (k:=0) rfl rfl
noncomputable def FoP (Q:Fl->Led->Prop) (inv:Led->Prop) (f:Fl) (l:Led):Prop:=match f with
 | .next | .cont=>inv l
 | .brk=>Q .next l
 | .ret d=>Q (.ret d) l
inductive hK (Q:Fl->Led->Prop) (I:Addr) (x:Ch) (inv:Led->Prop) (f:Fl) (led5:Led):Prop
 | mk (led6:Led):Take led5 I x led6->FoP Q inv f led6->hK Q I x inv f led5
inductive ForOk (c:Cst) (A:Around) (env:Env) (tgt:Expr) (body:List Stmt) (Q:Fl->Led->Prop) (itd:D) (led₂:Led):Prop
 | mk (I:Addr) (χ:List D->Ch) (V:List D->Led->Prop) (ds:List D) (led3:Led):itd = .ref I->Cur c A tgt χ I V->led₂=(I,χ ds)::led3->(inv:List D->Led->Prop)->inv ds led3->
   (∀ ds led3,inv ds led3->V ds ((I,χ ds)::led3))->
   (∀ d rest led3,inv (d::rest) led3->Asg c A env tgt d ((I,χ rest)::led3) fun led4=>Exs c A env body led4 (hK Q I (χ rest) (inv rest)))->(∀ led3,inv [] led3->Q .next led3)->ForOk c A env tgt body Q itd led₂
inductive FL (c:Cst) (Z:HP) (χ:List D->Ch) (I:Addr) (inv:List D->Led->Prop) (n:Nat) (s':Shared):Prop
 | mk:∀ (Z':HP) (ds:List D) (led3:Led),n=ds.length->Z.le Z'->R c Z' ((I,χ ds)::led3) s'->inv ds led3->FL c Z χ I inv n s'
theorem Ex.for_ {tgt iter:Expr}{body:List Stmt}{pos:Pos}{Q:Fl->Led->Prop} (hs:∀ x,foldedSetIterable iter env x=pure x)
  (h:Ev c A env iter led (kI c A (ForOk c A env tgt body Q))) :
  Ex c A env (.For tgt iter body [] pos) led Q:=fun Z s r=>by
 refine wpAny_For (bD (h Z s r) fun Z1 led₁ s₁ v d h1 r1 a1 q1=>bD (q1 Z1 s₁ v r1 a1) fun Z₂ led₂ s₂ itv itd h2 r2 a2 q2=>?_) hs
 obtain ⟨I,χ,V,ds,led3,rfl,K,rfl,inv,i0,iV,turn,fin⟩:=q2
 cases a2 using AV.eVal
 refine codeAny_forLoop_any (FL c Z χ I inv) (fun n s' hI=>?_) ds.length ⟨Z₂,ds,led3,rfl,h1.trans h2,r2,i0⟩
 obtain ⟨Z',ds,led3,rfl,hz,r',iv⟩:=hI
 induction ds using List.casesOn with
 | nil=>
  refine ac (K.done _ _ (iV _ _ iv) .h Z' s' r') (fun o s₁ x=>?_) noE.im
  induction o with
  | none=>
   obtain ⟨Z4,led4,h4,r4,rfl⟩:=x
   exact wpAny_execs_nil ⟨Z4,_,.next,hz.trans h4,r4,.next,fin _ iv⟩
  | some v=>exact (ac (Q':=fun u_ u_=>False) x (fun _ _ ⟨_,_,_,_,_,_,f⟩=>f) noE.im) |> fun y=>ac y (fun u_ u_ f=>f.elim) noE.im
 | cons d rest=>
  refine ac (K.more d rest _ _ (iV _ _ iv) .h Z' s' r') (fun o s₁ x=>?_) noE.im
  induction o with
  | none=>obtain ⟨_,_,_,_,f⟩:=x; exact f.elim
  | some v=>
   refine ac x (fun _ s₂ ⟨Z4,led4,d',h4,r4,a4,e1,e2⟩=>?_) noE.im
   subst e1 e2
   refine fq (turn d' rest led3 iv Z4 s₂ v r4 a4) fun Z5 led5 s₅ h5 r5 q5=>je (q5 Z5 s₅ r5) fun Z6 led6 s6 f g h6 r6 a6 q6=>?_
   obtain ⟨led7,tk,q⟩:=q6
   have hz':Z.le Z6:=((hz.trans h4).trans h5).trans h6
   induction a6 with
   | next=>exact ⟨rest.length,by simp,Z6,rest,led7,rfl,hz',r6.weak (.cons tk .rest),q⟩
   | cont=>exact ⟨rest.length,by simp,Z6,rest,led7,rfl,hz',r6.weak (.cons tk .rest),q⟩
   | brk=>exact ⟨Z6,led7,.next,hz',r6.take tk,.next,q⟩
   | ret a=>exact ⟨Z6,led7,_,hz',r6.take tk,.ret a,q⟩
end
end
section
noncomputable def bG:List (Str×NameKind)->List Str
 | []=>[]
 | (n,k)::r=>if k == .cell then n::bG r else bG r
noncomputable def wCells:List Str->Ch->Led->List (Str×Addr)->(Led->List (Str×Addr)->Prop)->Prop
 | [],_,led,cl,k=>k led cl
 | n::ns,x,led,cl,k=>∀ a,wCells ns x ((a,x)::led) ((n,a)::cl) k
theorem wCells.imp {x:Ch}{k k':Led->List (Str×Addr)->Prop} (h:∀ l cl,k l cl->k' l cl):∀ {ns:List Str}{led:Led}{cl:List (Str×Addr)},wCells ns x led cl k->wCells ns x led cl k'
 | [],_,_,q=>h _ _ q
 | _::_,_,_,q=>fun a=>wCells.imp h (q a)
noncomputable def front (x:Ch) (as:List Addr):Led:=as.reverse.map fun a=>(a,x)
theorem gG (x:Ch) (a:Addr) (as:List Addr) (led:Led):front x (a::as)++led=front x as++(a,x)::led:=by unfold front; simp
noncomputable def eZ:List Str->List Addr->List (Str×Addr)->List (Str×Addr)
 | n::ns,a::as,cl=>eZ ns as ((n,a)::cl)
 | _,_,cl=>cl
theorem wCells.pick {x:Ch}{k:Led->List (Str×Addr)->Prop}:∀ {ns:List Str}{led:Led}{cl:List (Str×Addr)},wCells ns x led cl k->∀ as:List Addr,as.length=ns.length->k (front x as++led) (eZ ns as cl)
 | [],_,_,q,[],_=>q
 | _::_,_,_,q,a::as,e=>by refine rP (gG _ _ _ _) ?_; exact (q a).pick as (by simpa using e)
theorem wCells.all {x:Ch}{k:Led->List (Str×Addr)->Prop}:∀ {ns:List Str}{led:Led}{cl:List (Str×Addr)},(∀ as:List Addr,as.length=ns.length->k (front x as++led) (eZ ns as cl))->wCells ns x led cl k
 | [],_,_,q=>q [] rfl
 | _::_,_,_,q=>fun a=>wCells.all fun as e=>by have:=q (a::as) (by simpa using e); rw [gG] at this; exact this
theorem Weak.cellA {led led':Led} (h:Weak led led'):∀ (as:List Addr),Weak (front (.cell none) as++led) (front .cellA as++led'):=fun as=>by
 unfold front
 induction as.reverse with
 | nil=>exact h
 | cons a r ih=>exact .le .cell ih
theorem Up.skip {led led':Led}{a:Addr}{x y:Ch} (u:Up led a x y led'):∀ (f:Led),Up (f++led) a x y (f++led'):=fun f=>u.app f
section
variable {c:Cst}{A:Around}{env:Env}{led:Led}{Z Z':HP}{s:Shared}
theorem dj {Q:List (Str×Addr)->Shared->Prop}{f:Str×NameKind->List (Str×Addr)->Sem (ForInStep (List (Str×Addr)))}
  (hf:∀ n k cl,f (n,k) cl=if k == .cell then (do let a <- alloc { cls:=.type "cell",data:=.cell none }; pure (.yield ((n,a)::cl))) else pure (.yield cl)) :
  ∀ (names:List (Str×NameKind)) (cl:List (Str×Addr)) (led:Led) (s:Shared),R c Z led s->
  wCells (bG names) (.cell none) led cl (fun led' cl'=>∀ s',R c Z led' s'->Q cl' s')->wpAny c.M A (forIn names cl f) Q noE s
 | [],cl,led,s,r,h=>ab (h s r)
 | (n,k)::rest,cl,led,s,r,h=>by
  refine rP (List.forIn_cons _ _ _ _) (rP (hf _ _ _) ?_)
  unfold bG at h
  by_cases hk:(k == NameKind.cell)=true
  ·rw [aY hk] at h ⊢
   refine aa (aa (wpAny_alloc (ab ?_)))
   have r2:=r.push (o:={ cls:=.type "cell",data:=.cell none }) (x:=.cell none) (.cell0 rfl)
   exact dj hf rest _ _ _ r2 (h _)
  ·rw [aX hk] at h ⊢
   exact aa (ab (dj hf rest _ _ _ r h))
noncomputable def Sto (c:Cst) (A:Around) (env:Env) (x:Str) (d:D) (led:Led) (Q:Led->Prop):Prop:=
 ∀ Z s v,R c Z led s->AV c.w Z v d->wpAny c.M A (storeName env x v) (PU c Z Q) noE s
theorem Sto.lo {x:Str}{d:D}{m:List (Str×D)}{led':Led}{Q:Led->Prop} (hl:env.kindOf x=some .local)
  (hp:(env.scope.kind == .class || (env.scope.kind == .module && env.locals != env.globals))=false)
  (u:Up led env.locals (.ns m) (.ns ((x,d)::m)) led') (h:Q led'):Sto c A env x d led Q:=fun u_ u_ u_ r a=>hF hl hp u h r a
theorem Sto.cel {x:Str}{d:D}{d0:Ch}{a:Addr}{led':Led}{Q:Led->Prop} (hk:env.scope.kind = .function) (hl:env.kindOf x=some .cell) (hc:env.cells.lookup x=some a)
  (u:Up led a d0 (.cell (some d)) led') (hd0:d0.isCell=true) (h:Q led'):Sto c A env x d led Q:=fun u_ u_ u_ r av=>kJ hk hl hc u hd0 h r av
noncomputable def Bnd (c:Cst) (A:Around) (env:Env):List (Str×D)->Led->(Led->Prop)->Prop
 | [],led,Q=>Q led
 | (x,d)::r,led,Q=>Sto c A env x d led fun led'=>Bnd c A env r led' Q
inductive Binds (w:World) (Z:HP):List (Str×Value)->List (Str×D)->Prop
 | nil:Binds w Z [] []
 | cons {x:Str}{v:Value}{d:D}{l:List (Str×Value)}{m:List (Str×D)}:AV w Z v d->Binds w Z l m->Binds w Z ((x,v)::l) ((x,d)::m)
theorem Binds.mono {w:World} (h:Z.le Z'){l:List (Str×Value)}{m:List (Str×D)} (b:Binds w Z l m):Binds w Z' l m:=b.rec .nil fun a u_ ih=>.cons (a.mono h) ih
theorem mH {Q:Led->Prop}{f:Str×Value->PUnit->Sem (ForInStep PUnit)} (hf:∀ n v u,f (n,v) u=(do storeName env n v; pure (.yield PUnit.unit))) :
  ∀ {l:List (Str×Value)}{m:List (Str×D)}{Z:HP}{led:Led}{s:Shared},Binds c.w Z l m->R c Z led s->Bnd c A env m led Q->wpAny c.M A (forIn l PUnit.unit f) (PU c Z Q) noE s
 | _,_,_,_,_,.nil,r,h=>ab (mkU r h)
 | _,_,_,_,_,.cons a b,r,h=>by
  refine rP (List.forIn_cons _ _ _ _) (rP (hf _ _ _) ?_)
  refine aa (aa (fq (h _ _ _ r a) fun Z1 led₁ s₁ h1 r1 q1=>ab ?_))
  exact ac (mH hf (b.mono h1) r1 q1) (fun u_ u_ x=>PU.le h1 x) noE.im
theorem jS {scope:Scope}{globals:Addr}{cl:List (Str×Addr)}{qual:Str}{func:Option Addr}{code:Value}{outer:Env}{builtins:Addr}{Q:Env->Shared->Prop} (r:R c Z led s)
  (h:∀ C,wCells (bG scope.names) (.cell none) ((C,.ns [])::led) cl fun led' cl'=>∀ s',R c Z led' s'->
   Q { scope,locals:=C,globals,cells:=cl',qual,func,code:=outer.code,frame:=outer.frame,builtins:=outer.builtins } s') :
  wpAny c.M A (newFunctionEnv scope globals cl [] qual func code (some outer) builtins) Q noE s:=by
 simp only [newFunctionEnv,Option.isSome_some,if_true]
 refine aa (wpAny_alloc ?_)
 have r2:=r.push (o:={ cls:=.type "dict",data:=.dict #[] }) (x:=.ns []) (.ns (es:=#[]) (mv:=fun u_=>none) rfl (by intro e he; simp at he) (by intro x; rfl) fun x y e=>by simp at e)
 refine aa (dj (fun n k cl=>by first | rfl | (split <;> rfl)) _ _ _ _ r2 ((h _).imp fun l cl k s' r'=>?_))
 exact aa (ab (ab (k s' r')))
theorem wpEnv {scope:Scope}{globals:Addr}{cl:List (Str×Addr)}{l:List (Str×Value)}{m:List (Str×D)}{qual:Str}{func:Option Addr}{code:Value}{builtins:Addr}{Q:Env->Shared->Prop} (r:R c Z led s) (b:Binds c.w Z l m)
  (h:∀ C,wCells (bG scope.names) (.cell none) ((C,.ns [])::led) cl fun led' cl'=>
   Bnd c A { scope,locals:=C,globals,cells:=cl',qual,func,code,frame:=some C,builtins } m led' fun led''=>∀ Z' s',Z.le Z'->R c Z' led'' s'->Q { scope,locals:=C,globals,cells:=cl',qual,func,code,frame:=some C,builtins } s') :
  wpAny c.M A (newFunctionEnv scope globals cl l qual func code none builtins) Q noE s:=by
 simp only [newFunctionEnv,Option.isSome_none,Bool.false_eq_true,if_false]
 refine aa (wpAny_alloc ?_)
 have r2:=r.push (o:={ cls:=.type "frame",data:=.dict #[] }) (x:=.ns []) (.ns (es:=#[]) (mv:=fun u_=>none) rfl (by intro e he; simp at he) (by intro x; rfl) fun x y e=>by simp at e)
 refine aa (dj (fun n k cl=>by first | rfl | (split <;> rfl)) _ _ _ _ r2 ((h _).imp fun l cl k s' r'=>?_))
 refine aa (fq (mH (fun n v u=>rfl) b r' k) fun Z1 led₁ s₁ h1 r1 q1=>ab (q1 _ _ h1 r1))
end
end
section
noncomputable def dl (scope:Scope) (cl:List (Str×Addr)) (C:Addr) (env:Env):Env:=
 { scope:=relabel scope env,locals:=C,globals:=env.globals,cells:=cl,qual:=env.qual,func:=none,code:=env.code,frame:=env.frame,builtins:=env.builtins }
noncomputable def Ifs (c:Cst) (A:Around) (env:Env):List Expr->Led->(Bool->Led->Prop)->Prop
 | [],led,Q=>Q true led
 | [e],led,Q=>Tst c A env e led Q
 | _,_,_=>False
section
variable {c:Cst}{A:Around}{env:Env}{led:Led}{Z Z':HP}{s:Shared}
theorem Ifs.run {ifs:List Expr}{Q:Bool->Led->Prop} (h:Ifs c A env ifs led Q) (r:R c Z led s) :
  wpAny c.M A (forIn ifs true fun c r=>if r=true then do let ok <- isTrue c env (eval c env); pure (ForInStep.yield ok) else pure (ForInStep.yield r)) (PB c Z Q) noE s:=by
 match ifs,h with
 | [],h=>exact ab (mkB r h)
 | [e],h=>
  simp -iota only [List.forIn_cons,List.forIn_nil,if_true]
  exact aa (aa (ac (h Z s r) (fun b s' hb=>ab (ab hb)) fun u_ u_ x=>x))
theorem plain_of {a:Addr}{vs:List Value}{n:Nat}{h:Heap} (e:h.get? a=some (ci vs n)):h.PlainList a vs.toArray:=⟨_,e⟩
theorem hM {a:Addr}{ds:List D}{v:Value}{d:D}{led':Led}{Q:Value->Shared->Prop}{E:Value->Shared->Prop} (r:R c Z led s) (u:Up led a (.lst ds) (.lst (ds++[d])) led') (hz:ds.length<=sizeLine) (av:AV c.w Z v d)
  (h:∀ s',R c Z led' s'->Q .none s'):wpAny c.M A (call (.builtin "list.append") [.ref a,v]) Q E s:=by
 obtain ⟨o,ho,hx⟩:=r.at_ u.at
 induction hx using Ch.On.eLst with
 | lst x=>
  refine wpAny_list_append_plain (hsz:=by refine rP aE (rP x.length ?_); exact hz) (plain_of ho) fun h' hl hs=>?_
  obtain ⟨n',hl⟩:=hl
  rw [List.push_toArray] at hl
  exact h _ (r.turn (t:=s.toks) u hs hl (.lst (x.snoc av)))
theorem cW {α β:Type} (p:α->Bool) (f:α->β) (l:List α) (x:α):((l++[x]).filter p).map f=(l.filter p).map f++(if p x then [f x] else []):=by
 refine rP (List.filter_append _ _) (rP aI ?_)
 cases h:p x <;> simp -iota [h]
noncomputable def dm (c:Cst) (A:Around) (env:Env) (scope:Scope) (cl:List (Str×Addr)) (elt tgt:Expr) (ifs:List Expr) (led3:Led) (x:D) (b₀:Bool) (y0:D):Prop:=
 ∀ C,wCells (bG scope.names) .cellA ((C,.ns [])::led3) cl fun ledc cells=>
   Asg c A (dl scope cells C env) tgt x ledc fun led₁=>Ifs c A (dl scope cells C env) ifs led₁ fun b led₂=>b=b₀/\
    if b=true then Ev c A (dl scope cells C env) elt led₂ fun y led4=>y=y0/\Weak led4 ledc else Weak led₂ ledc
inductive CL {α:Type} (c:Cst) (Z:HP) (g:α->D) (p:α->Bool) (f:α->D) (χ:List D->Ch) (xs:List α) (as:List Addr) (C acc I:Addr) (led3:Led) (n:Nat) (s':Shared):Prop
 | mk:∀ (pre:List α) (l:List α) (Z':HP),n=l.length->xs=pre++l->Z.le Z'->R c Z' (front .cellA as++(C,.ns [])::(acc,.lst ((pre.filter p).map f))::(I,χ (l.map g))::led3) s'->CL c Z g p f χ xs as C acc I led3 n s'
theorem compLoop {elt tgt iter:Expr}{ifs:List Expr}{scope:Scope}{pos:Pos}{I acc C:Addr}{cl:List (Str×Addr)}{as:List Addr} (has:as.length=(bG scope.names).length)
  {α:Type}{g:α->D}{p:α->Bool}{f:α->D}{χ:List D->Ch}{V:List D->Led->Prop}{led3:Led}{xs:List α}
  {RR:Result->Shared->Prop}
  (K:Cur c A tgt χ I V) (hz:xs.length<=sizeLine)
  (hV:∀ pre l,xs=pre++l->∀ fr,V (l.map g) (fr++(I,χ (l.map g))::led3))
  (turn:∀ acc out rest x,x∈xs->dm c A env scope cl elt tgt ifs ((acc,.lst out)::(I,χ rest)::led3) (g x) (p x) (f x))
  (fin:∀ Z' s',Z.le Z'->R c Z' (front .cellA as++(C,.ns [])::(acc,.lst ((xs.filter p).map f))::led3) s'->RR (.ok .next) s')
  (r:R c Z (front .cellA as++(C,.ns [])::(acc,.lst [])::(I,χ (xs.map g))::led3) s) :
  codeAny c.M A (.compLoop (.ListComp elt [⟨tgt,iter,ifs,0⟩] scope pos) 0 (.ref I) (.ref acc) (dl scope (eZ (bG scope.names) as cl) C env)) RR s:=by
 refine codeAny_loop rfl (CL c Z g p f χ xs as C acc I led3) (fun n s' hI=>?_) xs.length ⟨[],xs,Z,rfl,rfl,.rfl,r⟩
 obtain ⟨pre,l,Z1,rfl,hx,hz1,r1⟩:=hI
 refine (?_:wpAny _ A ((compTurn (.ListComp elt [⟨tgt,iter,ifs,0⟩] scope pos) 0 (.ref I) (.ref acc) _).onRaise (fun x=>do noteFrame x _; theTreesLotGoes x)) _ _ s')
 refine wpAny_noted ?_
 refine rP (compTurn_list _ _ _ _ _ _ _ _ _) ?_
 refine aa (wpAny_standAt (aa ?_))
 have e3:∀ (m:Led),front .cellA as++(C,.ns [])::(acc,.lst ((pre.filter p).map f))::m=(front .cellA as++[(C,.ns []),(acc,.lst ((pre.filter p).map f))])++m:=fun m=>by simp -iota
 induction l using List.casesOn with
 | nil=>
  have v0:=hV pre [] hx (front .cellA as++[(C,.ns []),(acc,.lst ((pre.filter p).map f))])
  refine ac (K.done _ _ v0 (Take.app _ .h) Z1 s' (by refine rQ (e3 _) ?_; exact r1)) (fun o s₁ h₁=>?_) noE.im
  induction o with
  | none=>
   obtain ⟨Z₂,led₂,h2,r2,rfl⟩:=h₁
   refine ab (fin Z₂ _ (hz1.trans h2) ?_)
   rw [List.append_nil] at hx
   refine rP hx (rP (e3 _) ?_); exact r2
  | some v=>
   refine aa (ac (Q:=fun u_ u_=>False) ?_ (fun u_ u_ f=>f.elim) fun u_ u_ f=>f)
   exact ac h₁ (fun _ _ ⟨_,_,_,_,_,_,f⟩=>f) noE.im
 | cons x l=>
  have v0:=hV pre (x::l) hx (front .cellA as++[(C,.ns []),(acc,.lst ((pre.filter p).map f))])
  refine ac (K.more _ _ _ _ v0 (Up.skip .h _) Z1 s' (by refine rQ (e3 _) ?_; exact r1)) (fun o s₁ h₁=>?_) noE.im
  induction o with
  | none=>obtain ⟨_,_,_,_,f⟩:=h₁; exact f.elim
  | some v=>
   refine aa (ac h₁ (fun _ s₂ ⟨Z₂,led₂,d,h2,r2,a2,e1,e2⟩=>?_) noE.im)
   subst e1 e2
   rw [<- e3] at r2
   have hxm:x∈xs:=by refine rP hx ?_; simp -iota
   have tn:=(turn acc ((pre.filter p).map f) (l.map g) x hxm C).pick as has
   have pl:(pre.filter p).length<=sizeLine:=by
    have:=bi p pre
    have e:xs.length=pre.length+(l.length+1):=by refine rP hx ?_; simp -iota
    omega
   refine aa (fq (tn Z₂ s₂ v r2 a2) fun Z3 led3' s₃ h3 r3 q3=>aa (fo (q3.run r3) fun Z4 led4 s₄ b h4 r4 q4=>?_))
   obtain ⟨hb,q4⟩:=q4
   subst hb
   by_cases hp:p x=true
   ·rw [aY hp] at q4 ⊢
    refine aa (aa (bD (q4 Z4 s₄ r4) fun Z5 led5 s₅ y d5 h5 r5 a5 q5=>?_))
    obtain ⟨hy,wk⟩:=q5
    subst hy
    refine aa (hM (r5.weak wk) (Up.skip (.t .h) _) (by refine rP (am _) ?_; exact pl) a5 fun s6 r6=>?_)
    refine ab (ab ⟨rfl,l.length,by simp,pre++[x],l,Z5,rfl,by refine rP hx ?_; simp,(((hz1.trans h2).trans h3).trans h4).trans h5,?_⟩)
    refine rP (cW _ _ _ _) (rP (aY hp) ?_)
    exact r6
   ·rw [aX hp] at q4 ⊢
    refine ab ⟨rfl,l.length,by simp,pre++[x],l,Z4,rfl,by refine rP hx ?_; simp,((hz1.trans h2).trans h3).trans h4,?_⟩
    refine rP (cW _ _ _ _) (rP (aX hp) (rP (List.append_nil _) ?_))
    exact r4.weak q4
inductive CmpOk {α:Type} (c:Cst) (A:Around) (env:Env) (scope:Scope) (cl:List (Str×Addr)) (elt tgt:Expr) (ifs:List Expr) (g:α->D) (p:α->Bool) (f:α->D) (xs:List α) (F:Led->Prop) (itd:D) (led₂:Led):Prop
 | mk (I:Addr) (χ:List D->Ch) (V:List D->Led->Prop) (led3:Led):itd = .ref I->Cur c A tgt χ I V->Slf c A χ I->led₂=(I,χ (xs.map g))::led3->xs.length<=sizeLine->
   (∀ pre l,xs=pre++l->∀ fr,V (l.map g) (fr++(I,χ (l.map g))::led3))->
   (∀ acc out rest x,x∈xs->dm c A env scope cl elt tgt ifs ((acc,.lst out)::(I,χ rest)::led3) (g x) (p x) (f x))->F led3->CmpOk c A env scope cl elt tgt ifs g p f xs F itd led₂
theorem CmpOk.imp {α:Type}{elt tgt:Expr}{ifs:List Expr}{scope:Scope}{cl:List (Str×Addr)}{g:α->D}{p:α->Bool}{f:α->D}{xs:List α}{F F':Led->Prop}{d:D}{l:Led}
  (h:CmpOk c A env scope cl elt tgt ifs g p f xs F d l) (k:∀ l,F l->F' l):CmpOk c A env scope cl elt tgt ifs g p f xs F' d l:=h.casesOn fun u_ u_ u_ u_ a b c d e f g h=>.mk _ _ _ _ a b c d e f g (k _ h)
theorem mI {elt tgt iter:Expr}{ifs:List Expr}{scope:Scope}{pos:Pos}{cl:List (Str×Addr)}{α:Type}{g:α->D}{p:α->Bool}{f:α->D}{xs:List α}{use:Option (Value->Sem Unit)}{Q:Value->Shared->Prop}
  (hclos:closureFor scope env=pure cl) (hkind:scope.kind = .function) (hnames:∀ x∈scope.names,x.2 = .local->scope.names.lookup x.1=some .local)
  (hs:∀ x,foldedSetIterable iter env x=pure x) (r:R c Z led s){pos':Pos}
  (h:Ev c A env iter led (kI c A (CmpOk c A env scope cl elt tgt ifs g p f xs fun led3=>∀ Z' s' acc C as,Z.le Z'->R c Z' (front .cellA as++(C,.ns [])::(acc,.lst ((xs.filter p).map f))::led3) s'->compPost c.M A noE use Q (.ref acc) C (.ok .next) s'))) :
  wpAny c.M A (comprehension (.ListComp elt [⟨tgt,iter,ifs,0⟩] scope pos) scope env pos' (newList []) false (eval iter env) use) Q noE s:=by
 refine wpAny_comprehension_free rfl hs hclos hkind hnames (bD (h Z s r) fun Z1 led₁ s₁ v d h1 r1 a1 q1=>bD (q1 Z1 s₁ v r1 a1) fun Z₂ led₂ s₂ itv itd h2 r2 a2 q2=>?_)
 obtain ⟨I,χ,V,led3,rfl,K,S,rfl,hz,hV,turn,fin⟩:=q2
 cases a2 using AV.eVal
 refine bp ?_
 have r3:=r2.push (o:=ci [] 0) (x:=.lst []) (.lst .nil)
 refine jS r3 fun C=>wCells.all fun as has s₄ r4=>?_
 have r4:=r4.weak (Weak.cellA .rest as)
 have start:=compLoop (iter:=iter) (pos:=pos) has K hz hV turn (fun Z' s' hz' r'=>fin Z' s' _ C as ((h1.trans h2).trans hz') r') r4
 exact codeAny_compStart_list start (ac (S _ _ (At.app _ (.t (.t .h))) _ _ r4 _ start) (fun u_ u_ h=>h) noE.im)
theorem R.dropFront {x:Ch}:∀ (as:List Addr),R c Z (front x as++led) s->R c Z led s:=fun as=>by
 unfold front
 induction as.reverse with
 | nil=>exact id
 | cons a r ih=>exact fun h=>ih (h.take .h)
theorem Ev.comp {elt tgt iter:Expr}{ifs:List Expr}{scope:Scope}{pos:Pos}{cl:List (Str×Addr)}{α:Type}{g:α->D}{p:α->Bool}{f:α->D}{xs:List α}{Q:D->Led->Prop}
  (hclos:closureFor scope env=pure cl) (hkind:scope.kind = .function) (hnames:∀ x∈scope.names,x.2 = .local->scope.names.lookup x.1=some .local)
  (hs:∀ x,foldedSetIterable iter env x=pure x)
  (h:Ev c A env iter led (kI c A (CmpOk c A env scope cl elt tgt ifs g p f xs (Q (.lst ((xs.filter p).map f)))))):Ev c A env (.ListComp elt [⟨tgt,iter,ifs,0⟩] scope pos) led Q:=fun Z s r=>by
 refine rP (eval_ListComp _ _ _ _) ?_
 refine mI hclos hkind hnames hs r (h.mono fun u_ u_ q=>Itr.mono q fun u_ u_ q=>CmpOk.imp q fun led3 fin Z' s' acc C as hz' r'=>?_)
 have r2:=r'.dropFront
 obtain ⟨mv,hn,_⟩:=r2.ns .h
 refine ⟨mv,hn,fun h' hs'=>?_⟩
 have r3:=r2.lose (t:=s'.toks) .h hs'.extBut
 obtain ⟨o,ho,hz3,r4⟩:=r3.freeze .h
 induction ho using Ch.On.eLst with
 | lst a=>exact ⟨_,led3,_,hz'.trans hz3,r4,.lst HP.sf (a.mono hz3),fin⟩
inductive UpQ (L:Addr) (x:Str) (d:D) (Q:Led->Prop) (l:Led):Prop
 | mk (m:List (Str×D)) (l':Led):Up l L (.ns m) (.ns ((x,d)::m)) l'->Q l'->UpQ L x d Q l
theorem Ex.asgComp {x:Str}{px spos:Pos}{elt tgt iter:Expr}{ifs:List Expr}{scope:Scope}{pos:Pos}{cl:List (Str×Addr)}{α:Type}{g:α->D}{p:α->Bool}{f:α->D}{xs:List α}{Q:Fl->Led->Prop}
  (hsw:swapsWith (.ListComp elt [⟨tgt,iter,ifs,0⟩] scope pos) (some (.Name x px)) spos.line env=pure true)
  (hl:env.kindOf x=some .local) (hp:(env.scope.kind == .class || (env.scope.kind == .module && env.locals != env.globals))=false)
  (hclos:closureFor scope env=pure cl) (hkind:scope.kind = .function) (hnames:∀ x∈scope.names,x.2 = .local->scope.names.lookup x.1=some .local)
  (hs:∀ x,foldedSetIterable iter env x=pure x)
  (h:Ev c A env iter led (kI c A (CmpOk c A env scope cl elt tgt ifs g p f xs (UpQ env.locals x (.lst ((xs.filter p).map f)) (Q .next))))):Ex c A env (.Assign [.Name x px] (.ListComp elt [⟨tgt,iter,ifs,0⟩] scope pos) spos) led Q:=fun Z s r=>by
 refine rP (exec_Assign_Name_used _ _ _ _ hsw) ?_
 refine aa (wpAny_standAt (aa ?_))
 refine (?_:wpAny _ A (do let _ <- comprehension (.ListComp elt [⟨tgt,iter,ifs,0⟩] scope pos) scope env _ (newList []) false (eval iter env) (some (assign (.Name x px) env))) _ _ s)
 refine aa (ac (mI (use:=some (assign (.Name x px) env)) (Q:=fun u_ s'=>PF c Z Q .next s') (g:=g) (p:=p) (f:=f) (xs:=xs) (Z:=Z) hclos hkind hnames hs r ?_) (fun u_ s' hq=>ab (ab hq)) fun u_ u_ e=>e)
 refine h.mono fun u_ u_ q=>Itr.mono q fun u_ u_ q=>CmpOk.imp q fun led3 fin Z' s' acc C as hz' r'=>?_
 obtain ⟨m,led4,u,q⟩:=fin
 obtain ⟨o,ho,hz3,r4⟩:=r'.freeze (Take.app (front .cellA as) (.t .h))
 induction ho using Ch.On.eLst with
 | lst a=>
  refine wpAny_assign_Name (ac (hF (Q:=fun l=>l=front .cellA as++(C,.ns [])::led4) hl hp (Up.app (front .cellA as) (.t u)) rfl r4 (.lst HP.sf (a.mono hz3))) (fun u_ s'' hq=>?_) noE.im)
  obtain ⟨Z'',led'',h5,r5,rfl⟩:=hq
  have r6:=r5.dropFront
  obtain ⟨mv,hn,_⟩:=r6.ns .h
  refine ⟨mv,hn,fun h' hs'=>?_⟩
  have r7:=r6.lose (t:=s''.toks) .h hs'.extBut
  exact ⟨_,led4,.next,(hz'.trans hz3).trans h5,r7,.next,q⟩
end
end
section
section
variable {c:Cst}{A:Around}{env:Env}{led:Led}{Z Z':HP}{s:Shared}
noncomputable def Keep (c:Cst) (h:Heap) (g:Value):Prop:=∃ k,(k=Keeper.frame\/k=Keeper.machine\/k=Keeper.boundFrame)/\Looks c.M h (keeperOf g) k
noncomputable def Kpr (c:Cst) (f:D) (led:Led):Prop:=∀ Z s g,R c Z led s->AV c.w Z g f->Keep c s.heap g
theorem Kpr.bui {id:String}:Kpr c (.val (.builtin id)) led:=fun u_ u_ u_ u_ a=>by cases a using AV.eVal; exact ⟨.machine,.inr (.inl rfl),.now⟩
theorem Kpr.typ {T:String}:Kpr c (.val (.type T)) led:=fun u_ u_ u_ u_ a=>by cases a using AV.eVal; exact ⟨.machine,.inr (.inl rfl),.now⟩
theorem Kpr.fn {a:Addr}{o:Obj}{fd:FuncData} (ho:c.H0.get? a=some o) (hd:o.data = .func fd):Kpr c (.ref a) led:=fun u_ s u_ r x=>by
 cases x using AV.eVal
 refine ⟨.frame,.inl rfl,(Looks.ld (part:=none) (r.keepH _ _ ho)).andThen ?_⟩
 refine rP hd ?_; exact .now
theorem jf {f:Value}{trees:List (Bool×Sem Value)}{Q:Args->Shared->Prop}{E:Value->Shared->Prop} (hst:trees.any (·.1)=false)
  (h:wpAny c.M A (spliced trees) (fun vs s'=>Q ⟨vs,[]⟩ s') E s):wpAny c.M A (evalArgs f true trees []) Q E s:=by
 induction trees using List.casesOn with
 | nil=>
  unfold evalArgs
  refine (?_:wpAny c.M A (spliced [] >>= _) Q E s)
  refine aa (ac h (fun vs s' h'=>aa (ab ?_)) fun u_ u_ x=>x)
  refine aV ?_
  exact aa (ab (aa (ab (ab h'))))
 | cons t r=>
  obtain ⟨b,x⟩:=t
  have hb:b=false:=by simp at hst; exact hst.1
  subst hb
  exact PySem.Calls.evalArgs_plain h
structure kK (c:Cst) (A:Around) (Q:D->Led->Prop) (f:D) (ds:List D) (l:Led):Prop where
 kpr:Kpr c f l
 cl:Cl c A f ds l Q
theorem eD {pos:Pos}{f:Value}{fd:D}{first:List Value}{firstD:List D}{args:List Expr}{p:Pos}{Q:D->Led->Prop} (r:R c Z led s) (af:AV c.w Z f fd) (a1:AVs c.w Z first firstD)
  (hst:(backTo p (starEach args env)).any (·.1)=false)
  (h:Evs c A env p args led fun ds led₂=>kK c A Q fd (firstD++ds) led₂):wpAny c.M A (callWith pos f first (backTo p (starEach args env)) []) (P1 c Z Q) noE s:=by
 refine callWith_of (P:=fun h=>Keep c h f) (by refine rP hst ?_; rfl) (fun u_ x=>x) (jf hst (jd (h Z s r) fun Z1 led₁ s₁ vs ds h1 r1 av q=>?_))
 exact ⟨q.kpr Z1 s₁ f r1 (af.mono h1),ac (q.cl Z1 s₁ f _ r1 (af.mono h1) ((a1.mono h1).append av)) (fun u_ u_ y=>P1.le h1 y) noE.im⟩
noncomputable abbrev kF (c:Cst) (A:Around) (env:Env) (pos:Pos) (args:List Expr) (Q:D->Led->Prop) (f:D) (l:Led):Prop:=Evs c A env pos args l (kK c A Q f)
theorem Ev.ca {func:Expr}{args:List Expr}{pos:Pos}{Q:D->Led->Prop}
  (he:eval (.Call func args [] pos) env=(do callWith pos (<- eval func env) [] (backTo pos (starEach args env)) (backToKw pos (keywordEach [] env))))
  (hst:(backTo pos (starEach args env)).any (·.1)=false)
  (h:Ev c A env func led (kF c A env pos args Q)):Ev c A env (.Call func args [] pos) led Q:=fun Z s r=>by
 refine rP he ?_
 refine aa (bD (h Z s r) fun Z1 led₁ s₁ f fd h1 r1 a1 q=>?_)
 exact ac (eD r1 a1 .nil hst q) (fun u_ u_ y=>P1.le h1 y) noE.im
noncomputable def Mth (c:Cst) (A:Around) (d:D) (name:Str) (led:Led) (Q:D->List D->Led->Prop):Prop:=
 ∀ Z s v pl,R c Z led s->AV c.w Z v d->wpAny c.M A (getMethod v name pl) (fun x s'=>∃ Z' led' f first,Z.le Z'/\R c Z' led' s'/\AV c.w Z' x.1 f/\AVs c.w Z' x.2 first/\Q f first led') noE s
theorem Ev.meth {o:Expr}{name:Str}{apos pos:Pos}{args:List Expr}{Q:D->Led->Prop} (hbase:attributeBase o name env (eval o env)=eval o env)
  (hform:methodCallForm (args.length+([]:List Keyword).length) (backTo pos (starEach args env)) (backToKw pos (keywordEach [] env))=true) (hline:(apos.endLine == pos.line)=true)
  (hst:(backTo pos (starEach args env)).any (·.1)=false)
  (h:Ev c A env o led fun d led₁=>Mth c A d name led₁ fun f first led₂=>Evs c A env pos args led₂ fun ds led3=>kK c A Q f (first++ds) led3) :
  Ev c A env (.Call (.Attribute o name apos) args [] pos) led Q:=fun Z s r=>by
 refine rP (arm_eval_Call _ _ _ _ _ _ _) (rP hbase ?_)
 refine aa (bD (h Z s r) fun Z1 led₁ s₁ v d h1 r1 a1 q=>aa (wpAny_standAt ?_))
 have hpos:methodCallPos true o env apos pos=pure pos:=by unfold methodCallPos; simp [hline]
 unfold methodCall
 refine rP hform ?_
 refine aa (aV (ac (q Z1 s₁ v _ r1 a1) ?_ noE.im))
 intro x s₂ q2
 obtain ⟨Z₂,led₂,f,first,h2,r2,a2,a3,q2⟩:=q2
 obtain ⟨x1,x2⟩:=x
 refine aa (wpAny_of_eq hpos ?_)
 exact ac (eD r2 a2 a3 hst q2) (fun u_ u_ y=>P1.le (h1.trans h2) y) noE.im
theorem Mth.bui {d:D}{name:Str}{T id:String}{Q:D->List D->Led->Prop} (pa:PlainAttrs T) (slot:Slot T name id) (hty:typeOf (.builtin id)=pure (.type "method_descriptor"))
  (ht:∀ Z s v,R c Z led s->AV c.w Z v d->s.TypeIs v T/\∀ a,v = .ref a->∃ o,s.heap.get? a=some o/\o.dict=none) (h:Q (.val (.builtin id)) [d] led):Mth c A d name led Q:=fun Z s v pl r a=>
 let ⟨h1,h2⟩:=ht Z s v r a
 getMethod_builtin h1 pa slot hty h2 ⟨Z,led,_,_,.rfl,r,.val,.cons a .nil,h⟩
theorem Bnd.imp {Q Q':Led->Prop} (h:∀ led,Q led->Q' led):∀ (m:List (Str×D)) (led:Led),Bnd c A env m led Q->Bnd c A env m led Q':=
 fun m=>m.rec (fun u_ q=>h _ q) fun u_ m ih u_ q Z s v r a=>ac (q Z s v r a) (fun u_ u_ x=>x.casesOn fun u_ u_ h1 r1 q1=>.mk _ _ h1 r1 (ih _ q1)) fun u_ u_ e=>e
theorem Cl.of1 {g:Value}{d:D}{Q:D->Led->Prop} (h:∀ Z s v,R c Z led s->AV c.w Z v d->wpAny c.M A (call g [v]) (P1 c Z Q) noE s):Cl c A (.val g) [d] led Q:=fun Z s u_ u_ r x y=>x.val' (y.one' fun v a=>h Z s v r a)
theorem Cl.of2 {g:Value}{d e:D}{Q:D->Led->Prop} (h:∀ Z s v u,R c Z led s->AV c.w Z v d->AV c.w Z u e->wpAny c.M A (call g [v,u]) (P1 c Z Q) noE s):Cl c A (.val g) [d,e] led Q:=fun Z s u_ u_ r x y=>x.val' (y.two' fun v u a b=>h Z s v u r a b)
structure Aok (A:Around) (n:Nat):Prop where
 hh:A.handled=none
 hd:A.depth+n<=990
 hu:A.units+10*n<=9800
theorem Aok.deep {n:Nat} (h:Aok A (n+1)) (env:Env):Aok (A.deeper env) n:=⟨h.hh,by have:=h.hd; show A.depth+1+n<=990; exact lenA this,by have:=h.hu; show A.units+3+10*n<=9800; lia⟩
theorem Aok.in1 {n:Nat} (h:Aok A (n+1)):Aok A.in1 n:=⟨h.hh,by have:=h.hd; show A.depth+n<=990; exact Nat.le_of_succ_le this,by have:=h.hu; show A.units+1+10*n<=9800; lia⟩
theorem Aok.le {m n:Nat} (h:Aok A n) (k:m<=n):Aok A m:=⟨h.hh,by have:=h.hd; exact nT (Nat.add_le_add_left k _) this,by have:=h.hu; lia⟩
noncomputable def dA (fd:FuncData) (a C:Addr) (cl:List (Str×Addr)):Env:={ scope:=fd.scope,locals:=C,globals:=fd.globals,cells:=cl,qual:=fd.qualname++".<locals>.",func:=some a,code:=fd.code,frame:=some C,builtins:=fd.builtins }
noncomputable def Fl.val:Fl->D
 | .ret d=>d
 | _=>.none
inductive bS (Q:D->Led->Prop) (led:Led) (f:Fl) (led':Led):Prop
 | mk (led₁:Led):Weak led' led₁->Q f.val led₁->bS Q led f led'
noncomputable def Cc (c:Cst) (A:Around) (f:D) (ds:List D) (led:Led) (Q:D->Led->Prop):Prop:=
 ∀ Z s g vs,R c Z led s->AV c.w Z g f->AVs c.w Z vs ds->codeAny c.M A (.call g ⟨vs,[]⟩) (fun r s'=>match r with | .ok (.ret v)=>P1 c Z Q v s' | .ok _=>False | .error e=>noE e s') s
theorem Cl.of {f:D}{ds:List D}{Q:D->Led->Prop} (h:Cc c A f ds led Q):Cl c A f ds led Q:=fun Z s g vs r x y=>wpAny_call (h Z s g vs r x y)
theorem codeFn {a:Addr}{o:Obj}{fd:FuncData}{body:List Stmt}{vs:List Value}{l:List (Str×Value)}{m:List (Str×D)}{n:Nat}{Q:D->Led->Prop} (ok:c.Ok) (hA:Aok A (n+1)) (r:R c Z led s) (ho:s.heap.get? a=some o) (hd:o.data = .func fd)
  (hcd:s.heap.CodeRec fd.code fd.qualname) (hbody:fd.body = .stmts body) (hb:BindsTo s fd ⟨vs,[]⟩ l) (bs:Binds c.w Z l m)
  (hco:fd.scope.isCoroutine=false) (hgen:fd.scope.isGenerator=false)
  (h:∀ C,wCells (bG fd.scope.names) (.cell none) ((C,.ns [])::led) fd.closure fun led' cl'=>∀ A',Aok A' n->Bnd c A.in1 (dA fd a C cl') m led' fun led₁=>Exs c A' (dA fd a C cl') body led₁ (bS Q led)) :
  codeAny c.M A (.call (.ref a) ⟨vs,[]⟩) (fun r s'=>match r with | .ok (.ret v)=>P1 c Z Q v s' | .ok _=>False | .error e=>noE e s') s:=by
 have hroom:A.depth<recursionLimit:=by have:=hA.hd; unfold recursionLimit; exact nD (aB (nR this)) rfl
 refine codeAny_call_function hroom ho hd hco hgen hbody hcd (hb _ _ _ _ ?_)
 refine ac (wpEnv (Q:=fun env s₂=>s₂.heap.NoLimit/\codeAny c.M A (.func body env) (fun r s'=>match r with | .ok (.ret v)=>P1 c Z Q v s' | .ok _=>False | .error e=>noE e s') s₂) r bs fun C=>(h C).imp fun led' cl' k=>?_) (fun u_ u_ y=>y) noE.im
 have k1:=k _ (hA.deep (dA fd a C cl'))
 refine Bnd.imp (fun led₁ ex Z1 s₁ hz r1=>⟨ok.lim.keeps r1.keepH,codeAny_func ?_⟩) _ _ k1
 refine ac (ex Z1 s₁ r1) (fun f s₂ q=>?_) noE.im
 obtain ⟨Z₂,led₂,g,h2,r2,a2,led3,wk,q⟩:=q
 have r3:=r2.weak wk
 induction a2 with
 | ret av=>exact ⟨Z₂,led3,_,hz.trans h2,r3,av,q⟩
 | _=>exact ⟨Z₂,led3,_,hz.trans h2,r3,.none,q⟩
theorem Cc.fn {a:Addr}{o:Obj}{fd:FuncData}{body:List Stmt}{ds:List D}{m:List (Str×D)}{n:Nat}{Q:D->Led->Prop} (ok:c.Ok) (hA:Aok A (n+1)) (ho:c.H0.get? a=some o) (hd:o.data = .func fd) (hcd:c.H0.CodeRec fd.code fd.qualname)
  (hbody:fd.body = .stmts body) (hbind:∀ Z s vs,R c Z led s->AVs c.w Z vs ds->∃ l,BindsTo s fd ⟨vs,[]⟩ l/\Binds c.w Z l m)
  (hco:fd.scope.isCoroutine=false) (hgen:fd.scope.isGenerator=false)
  (h:∀ C,wCells (bG fd.scope.names) (.cell none) ((C,.ns [])::led) fd.closure fun led' cl'=>∀ A',Aok A' n->Bnd c A.in1 (dA fd a C cl') m led' fun led₁=>Exs c A' (dA fd a C cl') body led₁ (bS Q led)) :
  Cc c A (.ref a) ds led Q:=fun Z s g vs r x av=>x.val' <|
 let ⟨l,hb,bs⟩:=hbind Z s vs r av
 codeFn ok hA r (r.keepH _ _ ho) hd (hcd.keeps r.keepH) hbody hb bs hco hgen h
end
end
section
section
variable {c:Cst}{A:Around}{env:Env}{led:Led}{Z Z':HP}{s:Shared}
theorem fv {n:Nat} (h:n<=sizeLine):(n:Int)<2 ^ 63:=by rw [ai] at h; exact iU h rfl
theorem Cl.lenL {ds:List D}{Q:D->Led->Prop} (hz:ds.length<=sizeLine) (h:Q (.int ds.length) led):Cl c A (.val (.builtin "len")) [.lst ds] led Q:=.of1 fun Z s v r y=>y.lst' fun l vs n e a=>by
 refine PySem.Calls.call_len_list (bx (r.zin _ _ e)) (by refine rP aE (rP a.length ?_); exact fv hz) ?_
 refine rP aE (rP a.length ?_)
 exact mk1 (r.toks _) .int h
theorem Cl.lenM {l:Addr}{ds:List D}{Q:D->Led->Prop} (hm:At led l (.lst ds)) (hz:ds.length<=sizeLine) (h:Q (.int ds.length) led):Cl c A (.val (.builtin "len")) [.ref l] led Q:=.of1 fun Z s v r y=>y.val' <| by
 obtain ⟨o,ho,hx⟩:=r.at_ hm
 induction hx using Ch.On.eLst with
 | lst a=>
  refine PySem.Calls.call_len_list (bx ho) (by refine rP aE (rP a.length ?_); exact fv hz) ?_
  refine rP aE (rP a.length ?_)
  exact mk1 (r.toks _) .int h
theorem Cl.lenS {x:Str}{Q:D->Led->Prop} (hz:x.length<=sizeLine) (h:Q (.int x.length) led):Cl c A (.val (.builtin "len")) [.str x] led Q:=.of1 fun Z s v r y=>y.str' fun t=>PyProof.Rows.len_str (by have:=fv hz; exact Int.not_le.2 this) (mkI r h)
theorem Cl.rng1 {n:Int}{Q:D->Led->Prop} (h:Q (.rng 0 n) led):Cl c A (.val (.type "range")) [.int n] led Q:=.of1 fun Z s v r y=>y.int' fun t=>call_range_1 (by
 obtain ⟨hz,r2⟩:=r.pushZ (o:=cw "range" [.int 0 s.toks,.int n t,.int 1 (s.toks+1)]) rfl
 exact ⟨_,led,_,hz,r2.toks _,.rng HP.sf,h⟩)
theorem Cl.rng2 {a b:Int}{Q:D->Led->Prop} (h:Q (.rng a b) led):Cl c A (.val (.type "range")) [.int a,.int b] led Q:=.of2 fun Z s v u r y z=>y.int' fun t=>z.int' fun t'=>call_range_2 (by
 obtain ⟨hz,r2⟩:=r.pushZ (o:=cw "range" [.int a t,.int b t',.int 1 s.toks]) rfl
 exact ⟨_,led,_,hz,r2.toks _,.rng HP.sf,h⟩)
theorem AVs.ints {w:World}:∀ {ns:List Int}{vs:List Value},AVs w Z vs (ns.map .int)->∃ xs:List (Int×Tok),vs=xs.map (fun p=>.int p.1 p.2)/\xs.map (·.1)=ns
 | [],_,h=>by cases h; exact ⟨[],rfl,rfl⟩
 | n::ns,_,h=>by
  rw [aA] at h
  cases h with
  | cons a b=>
   induction a using AV.eInt with
   | @int t=>
    obtain ⟨xs,h1,h2⟩:=AVs.ints b
    exact ⟨(n,t)::xs,by refine rP h1 ?_; rfl,by exact rP aA (rP h2 rfl)⟩
theorem dH (xs:List (Int×Tok)):(xs.map (fun p=>Value.int p.1 p.2)).toArray=intItems xs.toArray:=by unfold intItems; simp
theorem jg (xs:List (Int×Tok)):∀ k,preSum (numAt xs.toArray) k=((xs.map (·.1)).take k).sum
 | 0=>rfl
 | k+1=>by
  refine (?_:preSum (numAt xs.toArray) k+numAt xs.toArray k=_)
  refine rP (jg xs k) (rP (numAt_eq _ _) (rP List.take_add_one (rP List.sum_append ?_)))
  have:(List.map (fun x:Int×Tok=>x.1) xs.toArray.toList)=xs.map (·.1):=by simp
  refine rP this (rP aF ?_)
  cases h:(xs.map (·.1))[k]? <;> simp
theorem Cl.sumL {ns:List Int}{Q:D->Led->Prop} (hh:A.handled=none) (h:Q (.int ns.sum) led):Cl c A (.val (.builtin "sum")) [.lst (ns.map .int)] led Q:=.of1 fun Z s v r y=>y.lst' fun l vs n e a=>by
 obtain ⟨xs,rfl,h2⟩:=a.ints
 have hl:=bx (r.zin _ _ e)
 rw [dH] at hl
 refine call_sum_walkG (iter_intList hl fun s₂ e st hfp hlI=>?_)
 subst e
 refine ⟨_,_,_,_,_,_,numAt xs.toArray,rfl,Walks.list (A:=A.in1) hh _ _ hlI (intItems xs.toArray),st,hfp,(fun u_ u_=>intItems_at),fun h' tk t' hk=>?_⟩
 have e2:preSum (numAt xs.toArray) (intItems xs.toArray).size=ns.sum:=by
  rw [jg,h2,List.take_of_length_le]
  refine rQ h2 ?_; simp [intItems]
 refine rP e2 ?_
 exact mk1 (r.grow _ (old_kept hk)) .int h
noncomputable def mn:List Int->Int
 | []=>0
 | a::l=>l.foldl min a
noncomputable def mx:List Int->Int
 | []=>0
 | a::l=>l.foldl max a
theorem jh:∀ (l:List Int) (a:Int),l.foldl min a<=a/\(∀ b∈l,l.foldl min a<=b)/\(l.foldl min a=a\/l.foldl min a∈l)
 | [],a=>⟨Int.le_refl _,fun u_ h=>(nomatch h),.inl rfl⟩
 | b::l,a=>by
  obtain ⟨h1,h2,h3⟩:=jh l (min a b)
  refine ⟨Int.le_trans h1 (Int.min_le_left _ _),fun d hd=>?_,?_⟩
  ·refine (?_:l.foldl min (min a b)<=d)
   rcases List.mem_cons.mp hd with rfl | hd
   ·exact Int.le_trans h1 (Int.min_le_right _ _)
   ·exact h2 d hd
  ·refine (?_:l.foldl min (min a b)=a\/l.foldl min (min a b)∈b::l)
   rcases h3 with h3 | h3
   ·refine rP h3 ?_
    by_cases q:a<=b
    ·exact .inl (Int.min_eq_left q)
    ·exact .inr (by refine rP (show min a b=b from Int.min_eq_right (Int.le_of_lt (Int.not_le.1 q))) ?_; exact .head _)
   ·exact .inr (.tail _ h3)
theorem fw:∀ (l:List Int) (a:Int),a<=l.foldl max a/\(∀ b∈l,b<=l.foldl max a)/\(l.foldl max a=a\/l.foldl max a∈l)
 | [],a=>⟨Int.le_refl _,fun u_ h=>(nomatch h),.inl rfl⟩
 | b::l,a=>by
  obtain ⟨h1,h2,h3⟩:=fw l (max a b)
  refine ⟨Int.le_trans (Int.le_max_left _ _) h1,fun d hd=>?_,?_⟩
  ·refine (?_:d<=l.foldl max (max a b))
   rcases List.mem_cons.mp hd with rfl | hd
   ·exact Int.le_trans (Int.le_max_right _ _) h1
   ·exact h2 d hd
  ·refine (?_:l.foldl max (max a b)=a\/l.foldl max (max a b)∈b::l)
   rcases h3 with h3 | h3
   ·refine rP h3 ?_
    by_cases q:b<=a
    ·exact .inl (Int.max_eq_left q)
    ·exact .inr (by refine rP (show max a b=b from Int.max_eq_right (Int.le_of_lt (Int.not_le.1 q))) ?_; exact .head _)
   ·exact .inr (.tail _ h3)
theorem mn_is {ns:List Int}{m:Int} (h1:m∈ns) (h2:∀ a∈ns,m<=a):mn ns=m:=by
 induction ns using List.casesOn with
 | nil=>exact mN h1
 | cons a l=>
  obtain ⟨g1,g2,g3⟩:=jh l a
  have k1:m<=l.foldl min a:=by
   rcases g3 with g3 | g3
   ·refine rP g3 ?_; exact h2 a (.head _)
   ·exact h2 _ (.tail _ g3)
  have k2:l.foldl min a<=m:=by
   rcases List.mem_cons.mp h1 with rfl | h1
   ·exact g1
   ·exact g2 _ h1
  exact Int.le_antisymm k2 k1
theorem mx_is {ns:List Int}{m:Int} (h1:m∈ns) (h2:∀ a∈ns,a<=m):mx ns=m:=by
 induction ns using List.casesOn with
 | nil=>exact mN h1
 | cons a l=>
  obtain ⟨g1,g2,g3⟩:=fw l a
  have k1:l.foldl max a<=m:=by
   rcases g3 with g3 | g3
   ·refine rP g3 ?_; exact h2 a (.head _)
   ·exact h2 _ (.tail _ g3)
  have k2:m<=l.foldl max a:=by
   rcases List.mem_cons.mp h1 with rfl | h1
   ·exact g1
   ·exact g2 _ h1
  exact Int.le_antisymm k1 k2
theorem hZ {xs:List (Int×Tok)}{ns:List Int} (h2:xs.map (·.1)=ns):∀ j,numAt xs.toArray j=ns.getD j 0:=fun j=>by exact rP (numAt_eq _ _) (rQ h2 rfl)
theorem Cl.minL {ns:List Int}{Q:D->Led->Prop} (hh:A.handled=none) (hne:ns≠[]) (h:Q (.int (mn ns)) led):Cl c A (.val (.builtin "min")) [.lst (ns.map .int)] led Q:=.of1 fun Z s v r y=>y.lst' fun l vs n e a=>by
 obtain ⟨xs,rfl,h2⟩:=a.ints
 have hl:=bx (r.zin _ _ e)
 rw [dH] at hl
 have hs:xs.length=ns.length:=by refine rQ h2 ?_; simp
 have hp:0<ns.length:=List.length_pos_iff.mpr hne
 refine min_intList hh hl (by simpa [hs] using hp) fun v h' tk hv hk=>?_
 obtain ⟨t,rfl⟩:=intItems_at hv
 obtain ⟨g1,g2⟩:=argBest_lt (numAt xs.toArray) (xs.toArray.size - 1)
 have e3:mn ns=numAt xs.toArray (argBest (fun i j=>decide (numAt xs.toArray i<numAt xs.toArray j)) (xs.toArray.size - 1)):=by
  refine mn_is ?_ fun a ha=>?_
  ·refine rP (hZ h2 _) ?_; refine PySem.getD_mem ?_; rw [aE] at g1 ⊢; omega
  ·obtain ⟨j,hj,rfl⟩:=mem_getD ha
   refine rQ (hZ h2 j) ?_
   exact g2 j (by refine rP aE ?_; lia)
 refine rQ e3 ?_
 exact mk1 (r.grow _ hk) .int h
theorem Cl.maxL {ns:List Int}{Q:D->Led->Prop} (hh:A.handled=none) (hne:ns≠[]) (h:Q (.int (mx ns)) led):Cl c A (.val (.builtin "max")) [.lst (ns.map .int)] led Q:=.of1 fun Z s v r y=>y.lst' fun l vs n e a=>by
 obtain ⟨xs,rfl,h2⟩:=a.ints
 have hl:=bx (r.zin _ _ e)
 rw [dH] at hl
 have hs:xs.length=ns.length:=by refine rQ h2 ?_; simp
 have hp:0<ns.length:=List.length_pos_iff.mpr hne
 refine max_intList hh hl (by simpa [hs] using hp) fun v h' tk hv hk=>?_
 obtain ⟨t,rfl⟩:=intItems_at hv
 obtain ⟨g1,g2⟩:=argBest_gt (numAt xs.toArray) (xs.toArray.size - 1)
 have e3:mx ns=numAt xs.toArray (argBest (fun i j=>decide (numAt xs.toArray i>numAt xs.toArray j)) (xs.toArray.size - 1)):=by
  refine mx_is ?_ fun a ha=>?_
  ·refine rP (hZ h2 _) ?_; refine PySem.getD_mem ?_; rw [aE] at g1 ⊢; omega
  ·obtain ⟨j,hj,rfl⟩:=mem_getD ha
   refine rQ (hZ h2 j) ?_
   exact g2 j (by refine rP aE ?_; omega)
 refine rQ e3 ?_
 exact mk1 (r.grow _ hk) .int h
theorem Cl.max2 {a b:Int}{Q:D->Led->Prop} (hh:A.handled=none) (h:Q (.int (max a b)) led):Cl c A (.val (.builtin "max")) [.int a,.int b] led Q:=.of2 fun Z s v u r y z=>y.int' fun t=>z.int' fun t'=>max_two_ints hh fun h' tk hk=>by
 by_cases q:b>a
 ·refine rP (aY q) ?_; exact mk1 (r.grow _ hk) .int (by rw [show max a b=b by exact Int.max_eq_right (Int.le_of_lt q)] at h; exact h)
 ·refine rP (aX q) ?_; exact mk1 (r.grow _ hk) .int (by rw [show max a b=a by exact Int.max_eq_left (Int.le_of_not_gt q)] at h; exact h)
noncomputable def chars (x:Str):List D:=x.cps.toList.map fun ch=>.str ⟨#[ch]⟩
theorem AVs.ofItems {w:World}{x:Str}:∀ {vs:List Value}{l:List Nat},vs.length=l.length->(∀ (j:Nat) v,vs[j]? = some v->∃ ch u,l[j]? = some ch/\v = .str ⟨#[ch]⟩ u)->AVs w Z vs (l.map fun ch=>.str ⟨#[ch]⟩)
 | [],[],_,_=>.nil
 | v::vs,ch::l,e,h=>by
  obtain ⟨c',u,h1,rfl⟩:=h 0 v rfl
  cases h1
  exact .cons .str (AVs.ofItems (x:=x) (by simpa using e) fun j v hj=>h (j+1) v (by simpa using hj))
theorem Cl.listS {x:Str}{Q:D->Led->Prop} (hh:A.handled=none) (hz:x.length<=sizeLine) (h:∀ a,Q (.ref a) ((a,.lst (chars x))::led)):Cl c A (.val (.type "list")) [.str x] led Q:=.of1 fun Z s v r y=>y.str' fun t=>by
 refine PySem.call_list_str (hn:=hz) hh x t fun h' tk acc' c' hk hg hi=>?_
 have e:acc'=acc'.toList.toArray:=by simp
 rw [e] at hg
 refine mk1 (r.new (t:=tk) (o:=ci acc'.toList c') (x:=.lst (chars x)) (R.none_of_ge (aC _)) hk hg (.lst (AVs.ofItems (x:=x) (by refine rP Array.length_toList (rP Array.length_toList ?_); exact hi.1) fun j v hj=>?_))) .val (h _)
 obtain ⟨c1,u,h1,h2⟩:=hi.2 j v (by simpa using hj)
 exact ⟨c1,u,by simpa using h1,h2⟩
theorem Cl.isiI {i:Int}{Q:D->Led->Prop} (h:Q (.bool false) led):Cl c A (.val (.builtin "isinstance")) [.int i,.val (.type "tuple")] led Q:=.of2 fun Z s v u r y z=>y.int' fun t=>z.val' (IsiPair.int_tuple (mk1 (r.toks _) .bool h))
theorem mulOkS {x:Str}{n:Int} (h1:x.length<=1000) (h2:-1000<=n) (h3:n<=1000):MulOk x n:=by
 refine ⟨by simp; exact ⟨(Int.le_trans (by decide) h2),(bo h3 (by decide))⟩,fun hn u_=>?_,fun hn u_=>?_⟩
 ·intro hx
  have:(2 ^ 63 - 1:Int) / n>=(2 ^ 63 - 1) / 1000:=by
   apply Int.le_of_lt_add_one
   have hp:0<n:=by exact Int.lt_of_lt_of_le (by decide) (Int.le_of_not_gt hn)
   refine rP (propext (Int.lt_add_one_iff)) ?_
   exact Int.le_ediv_of_mul_le hp (by lia)
  exact Int.not_le_of_gt (bo (Int.le_of_lt hx) (iU h1 rfl)) this
 ·unfold Builtin.Str.tooLong
  have:x.length*n.toNat<=1000*1000:=Nat.mul_le_mul h1 (by lia)
  simp only [decide_eq_false_iff_not,ai]
  exact Nat.not_lt_of_le (nD this rfl)
theorem Bin.mulS {x:Str}{n:Int}{Q:D->Led->Prop} (h1:x.length<=1000) (h2:-1000<=n) (h3:n<=1000) (h:Q (.str (Txt.mul x n)) led):Bin c A .Mult (.str x) (.int n) led Q:=fun Z s u_ u_ r x y=>x.str' fun t=>y.int' fun t'=>SB.mul (mulOkS h1 h2 h3) fun u_ u_=>mkS r h
theorem AVs.strs {w:World}:∀ {ys:List Str}{vs:List Value},AVs w Z vs (ys.map .str)->StrsAre vs ys
 | [],_,h=>by cases h; exact .nil
 | n::ns,_,h=>by
  rw [aA] at h
  cases h with
  | cons a b=>
   cases a using AV.eStr
   exact .cons _ _ (AVs.strs b)
theorem Cl.join {x:Str}{ys:List Str}{Q:D->Led->Prop} (hz:(ys.map (·.length)).sum+ys.length*x.length<=16777216) (h:Q (.str (Txt.join x ys)) led):Cl c A (.val (.builtin "str.join")) [.str x,.lst (ys.map .str)] led Q:=.of2 fun Z s v u r y z=>y.str' fun t=>z.lst' fun l vs n e a=>join_list (bx (r.zin _ _ e)) a.strs hz fun u_ u_=>mkS r h
theorem Cl.count {x y:Str}{Q:D->Led->Prop} (h:Q (.int (Txt.count x y)) led):Cl c A (.val (.builtin "str.count")) [.str x,.str y] led Q:=.of2 fun Z s v u r y z=>y.str' fun t=>z.str' fun t'=>SC.count (mkI r h)
end
end
section
section
variable {c:Cst}{A:Around}{env:Env}{led:Led}{Z Z':HP}{s:Shared}
noncomputable def AsgL (c:Cst) (A:Around) (env:Env):List Expr->List D->Led->(Led->Prop)->Prop
 | [],[],led,Q=>Q led
 | e::es,d::ds,led,Q=>Asg c A env e d led fun led'=>AsgL c A env es ds led' Q
 | _,_,_,_=>False
theorem AsgL.run {Q:Led->Prop} (es:List Expr):∀ {ds:List D}{vs:List Value}{led:Led}{Z:HP}{s:Shared},AsgL c A env es ds led Q->R c Z led s->AVs c.w Z vs ds->
  wpAny c.M A (assignInOrder (es.map fun e=>assign e env) vs) (PU c Z Q) noE s:=by
 induction es with
 | nil=>
  intro ds vs led Z s h r a
  induction ds using List.casesOn with
  | nil=>exact assignInOrder_nil (mkU r h)
  | cons=>exact h.elim
 | cons e es ih=>
  intro ds vs led Z s h r a
  induction ds using List.casesOn with
  | nil=>exact h.elim
  | cons d ds=>exact a.cons' fun v vs x y=>assignInOrder_cons (fq (h _ _ _ r x) fun Z1 led₁ s₁ h1 r1 q=>ac (ih q r1 (y.mono h1)) (fun u_ u_ k=>PU.le h1 k) noE.im)
theorem Asg.tup {elts:List Expr}{k:Nat}{pos:Pos}{ds:List D}{Q:Led->Prop} (hh:A.handled=none) (he:assignEach elts env=elts.map fun e=>(false,assign e env)) (hn:elts.length=ds.length)
  (h:AsgL c A env elts ds led Q):Asg c A env (.Tuple elts k pos) (.tup ds) led Q:=fun Z s v r a=>a.tup' fun l vs n e av=>by
 refine wpAny_assign_Tuple hh ⟨_,r.zin _ _ e,rfl,n,rfl⟩ (by exact rP he (rP (am _) (rP aE (rP av.length (rP hn rfl))))) (by refine rP he ?_; induction elts with | nil=>rfl | cons x r ih=>simp) fun h' hx=>?_
 refine rP he (rP aG ?_)
 exact AsgL.run elts h (r.grow (h':=h') s.toks fun b o e=>hx b o (fun q=>by rw [q] at e; exact absurd (br e) (Nat.lt_irrefl _)) e) av
theorem PUF {Q:Fl->Led->Prop}{t:Sem Unit} (hz:Z.le Z') (h:wpAny c.M A t (PU c Z' fun l=>Q .next l) noE s):wpAny c.M A t (fun u_=>PF c Z Q .next) noE s:=
 fq h fun Z1 led₁ s₁ h1 r1 q=>⟨Z1,led₁,.next,hz.trans h1,r1,.next,q⟩
theorem Ex.asgT {elts:List Expr}{k:Nat}{tpos pos:Pos}{e:Expr}{Q:Fl->Led->Prop} (hs:swapsWithSole [.Tuple elts k tpos] e pos.line env=pure false) (hw:swappedStores [.Tuple elts k tpos] e env=pure none)
  (h:Ev c A env e led fun d led₁=>Asg c A env (.Tuple elts k tpos) d led₁ fun l=>Q .next l):Ex c A env (.Assign [.Tuple elts k tpos] e pos) led Q:=fun Z s r=>
 Assign_Tuple (bD (h Z s r) fun Z1 led₁ s₁ v d h1 r1 a1 q=>PUF h1 (q Z1 s₁ v r1 a1)) hs hw
theorem Ex.asgA {o:Expr}{x:Str}{tpos pos:Pos}{e:Expr}{Q:Fl->Led->Prop} (hs:swapsWith e (some (.Attribute o x tpos)) pos.line env=pure false)
  (h:Ev c A env e led fun d led₁=>Ev c A env o led₁ fun a led₂=>Sat c A a x d led₂ fun l=>Q .next l):Ex c A env (.Assign [.Attribute o x tpos] e pos) led Q:=fun Z s r=>
 plainObj_wpAny_Assign_Attribute (bD (h Z s r) fun Z1 led₁ s₁ v d h1 r1 a1 q=>bD (q Z1 s₁ r1) fun Z₂ led₂ s₂ ov a h2 r2 a2 q2=>PUF (h1.trans h2) (q2 Z₂ s₂ ov v r2 a2 (a1.mono h2))) hs
theorem Ex.asgS {o i:Expr}{tpos pos:Pos}{e:Expr}{Q:Fl->Led->Prop} (hs:swapsWith e (some (.Subscript o i tpos)) pos.line env=pure false)
  (h:Ev c A env e led fun d led₁=>Ev c A env o led₁ fun a led₂=>Ev c A env i led₂ fun b led3=>Sit c A a b d led3 fun l=>Q .next l):Ex c A env (.Assign [.Subscript o i tpos] e pos) led Q:=fun Z s r=>
 wpAny_Assign_Subscript (bD (h Z s r) fun Z1 led₁ s₁ v d h1 r1 a1 q=>bD (q Z1 s₁ r1) fun Z₂ led₂ s₂ ov a h2 r2 a2 q2=>bD (q2 Z₂ s₂ r2) fun Z3 led3 s₃ iv b h3 r3 a3 q3=>
  PUF ((h1.trans h2).trans h3) (q3 Z3 s₃ ov iv v r3 (a2.mono h3) a3 (a1.mono (h2.trans h3)))) hs
theorem Ex.expr {e:Expr}{pos:Pos}{Q:Fl->Led->Prop} (hi:interactive env=false) (hs:swapsWith e none pos.line env=pure false) (h:Ev c A env e led fun d led₁=>d = .none/\Q .next led₁):Ex c A env (.Expr e pos) led Q:=fun Z s r=>
 wpAny_Expr (bD (h Z s r) fun Z1 led₁ s₁ v d h1 r1 a1 ⟨e,q⟩=>by subst e; cases a1 using AV.eNone; exact ⟨Z1,led₁,.next,h1,r1,.next,q⟩) hi hs
noncomputable def Ldn (c:Cst) (A:Around) (env:Env) (x:Str) (led:Led) (Q:D->Led->Prop):Prop:=∀ Z s,R c Z led s->wpAny c.M A (loadName env x) (P1 c Z Q) noE s
theorem Ldn.loc {x:Str}{m:List (Str×D)}{d:D}{Q:D->Led->Prop} (hk:env.scope.kind = .function) (hl:env.kindOf x=some .local) (hm:At led env.locals (.ns m)) (hx:m.lookup x=some d) (h:Q d led):Ldn c A env x led Q:=fun Z s r=>by
 obtain ⟨mv,hn,k⟩:=r.ns hm
 obtain ⟨v,hv,ha⟩:=k _ _ hx
 exact wpAny_loadName_local hk hl hn hv (mk1 r ha h)
theorem Ldn.cel {x:Str}{a:Addr}{d:D}{Q:D->Led->Prop} (hk:env.scope.kind = .function) (hl:env.kindOf x=some .cell) (hc:env.cells.lookup x=some a) (hm:At led a (.cell (some d))) (h:Q d led):Ldn c A env x led Q:=fun Z s r=>by
 obtain ⟨v,hv,ha⟩:=r.cell hm
 exact wpAny_loadName_cell hk hl hc hv (mk1 r ha h)
theorem Ex.augN {x:Str}{tpos pos:Pos}{op:Operator}{e:Expr}{Q:Fl->Led->Prop} (h:Ldn c A env x led fun a led₁=>Ev c A env e led₁ fun b led₂=>Inp c A op a b led₂ fun d led3=>Sto c A env x d led3 fun l=>Q .next l) :
  Ex c A env (.AugAssign (.Name x tpos) op e pos) led Q:=fun Z s r=>
 wpAny_AugAssign_Name (bD (h Z s r) fun Z1 led₁ s₁ v a h1 r1 a1 q=>bD (q Z1 s₁ r1) fun Z₂ led₂ s₂ u b h2 r2 a2 q2=>bD (q2 Z₂ s₂ v u r2 (a1.mono h2) a2) fun Z3 led3 s₃ w d h3 r3 a3 q3=>
  PUF ((h1.trans h2).trans h3) (q3 Z3 s₃ w r3 a3))
theorem Ex.augA {o e:Expr}{x:Str}{tpos pos:Pos}{op:Operator}{Q:Fl->Led->Prop} (h:Ev c A env o led fun ob led₁=>Gat c A ob x led₁ fun a led₂=>Ev c A env e led₂ fun b led3=>Inp c A op a b led3 fun d led4=>Sat c A ob x d led4 fun l=>Q .next l) :
  Ex c A env (.AugAssign (.Attribute o x tpos) op e pos) led Q:=fun Z s r=>
 wpAny_AugAssign_AttributeAny (bD (h Z s r) fun Z1 led₁ s₁ ov ob h1 r1 a1 q=>bD (q Z1 s₁ ov r1 a1) fun Z₂ led₂ s₂ v a h2 r2 a2 q2=>bD (q2 Z₂ s₂ r2) fun Z3 led3 s₃ u b h3 r3 a3 q3=>
  bD (q3 Z3 s₃ v u r3 (a2.mono h3) a3) fun Z4 led4 s₄ w d h4 r4 a4 q4=>PUF (((h1.trans h2).trans h3).trans h4) (q4 Z4 s₄ ov w r4 (a1.mono ((h2.trans h3).trans h4)) a4))
noncomputable def WhPost (Q:Fl->Led->Prop) (inv:Led->Prop):Fl->Led->Prop:=fun f l=>match f with
 | .next | .cont=>inv l
 | .brk=>Q .next l
 | .ret d=>Q (.ret d) l
theorem Ex.while_ {test:Expr}{body:List Stmt}{pos:Pos}{Q:Fl->Led->Prop} (inv:Nat->Led->Prop) (n:Nat) (h0:inv n led)
  (h:∀ n led,inv n led->Tst c A env test led fun b led₁=>if b=true then Exs c A env body led₁ (WhPost Q (LT n inv)) else Q .next led₁):Ex c A env (.While test body [] pos) led Q:=fun Z s r=>by
 refine wpAny_While (codeAny_whileLoop (fun n=>PU c Z (inv n) ()) (fun n s' hI=>?_) n ⟨Z,led,.rfl,r,h0⟩)
 obtain ⟨Z1,led₁,h1,r1,i1⟩:=hI
 refine fo (h n led₁ i1 Z1 s' r1) fun Z₂ led₂ s₂ b h2 r2 q2=>?_
 induction b with
 | false=>exact wpAny_execs_nil ⟨Z₂,led₂,.next,h1.trans h2,r2,.next,q2⟩
 | true=>
  refine je (q2 Z₂ s₂ r2) fun Z3 led3 s₃ f g h3 r3 a3 q3=>?_
  have hz:=(h1.trans h2).trans h3
  induction a3 with
  | next=>obtain ⟨m,hm,i⟩:=q3; exact ⟨m,hm,Z3,led3,hz,r3,i⟩
  | cont=>obtain ⟨m,hm,i⟩:=q3; exact ⟨m,hm,Z3,led3,hz,r3,i⟩
  | brk=>exact ⟨Z3,led3,.next,hz,r3,.next,q3⟩
  | ret a=>exact ⟨Z3,led3,_,hz,r3,.ret a,q3⟩
end
end
section
open PySem.SeqAt PySem.MeetsSeq PySem.MeetsSeq2 PySem.MeetsSeq3 PySem.SeqRoads2
open PySem.AutoSeq1 (wpAny_loadPart')
noncomputable def lex (le:Int->Int->Bool) (eq:Bool):List (Int×Int)->Bool
 | []=>eq
 | (a,b)::r=>if a == b then lex le eq r else le a b
theorem ia (l b:Addr) (ps:List ((Int×Tok)×(Int×Tok))) (n n2:Nat) :
  Meets (Builtin.«tuple.__le__» ⟨[.ref l,.ref b],[]⟩)
   (fun A R s=>s.heap.get? l=some (eY (ps.map fun p=>.int p.1.1 p.1.2) n)/\s.heap.get? b=some (eY (ps.map fun p=>.int p.2.1 p.2.2) n2)/\
    R (.ok (.ret (.bool (lex (fun a b=>decide (a<=b)) true (ps.map fun p=>(p.1.1,p.2.1)))))) s):=
 .of_wp fun prog w A R s h=>by
  obtain ⟨hp,g,d,tk,os⟩:=s; obtain ⟨hl,hb,h⟩:=h
  have f2:=AutoSeq1.sub_tuple_tuple
  wp_walk using wpAny_loadPart' hl,wpAny_loadPart' hb,wpAny_forIn_list _ (fun rest b s'=>b.1=none/\s'=⟨hp,g,d,tk,os⟩/\∃ qs:List ((Int×Tok)×(Int×Tok)),rest=qs.map (fun p=>(Value.int p.1.1 p.1.2,Value.int p.2.1 p.2.2))/\
   R (.ok (.ret (.bool (lex (fun a b=>decide (a<=b)) true (qs.map fun p=>(p.1.1,p.2.1)))))) ⟨hp,g,d,tk,os⟩) _
  case turn=>
   rintro ⟨y,x⟩ rest b s' ⟨hb',rfl,qs,hz,hR⟩
   induction qs using List.casesOn with
   | nil=>exact cN' hz
   | cons q qs=>
    injection hz with hyx hrest
    injection hyx with hy hx
    subst hy hx
    refine aa (EqAt.int_int (A:=A.in1) q.1.1 q.1.2 q.2.1 q.2.2 prog w _ _ ?_)
    cases hc:(q.1.1 == q.2.1) with
    | true=>
     wp_walk
     exact ⟨rfl,rfl,qs,hrest,by simpa [lex,hc] using hR⟩
    | false=>
     have key:∀ (Q:Value->Shared->Prop) E s',Q (.bool (decide (q.1.1<=q.2.1))) s'->wpAny (model prog w) A.in1 (richCompare .LtE (.int q.1.1 q.1.2) (.int q.2.1 q.2.2)) Q E s':=fun Q E s' hq=>le_int hq
     refine rP (aY (by rfl)) ?_
     exact aa (wpAny_rule (aa (key _ _ _ (aa (ab (ab (ab ⟨_,rfl,by simpa [lex,hc] using hR⟩)))))))
  case fin=>
   rintro ⟨b1,b2⟩ s' ⟨hb',rfl,qs,hz,hR⟩
   simp only at hb'
   subst hb'
   induction qs using List.casesOn with
   | cons q qs=>exact nC hz
   | nil=>
    wp_walk
    exact ⟨_,rfl,by simpa [Builtin.Tuple.tupleCompareSizes,lex] using hR⟩
  case h=>
   refine ⟨rfl,rfl,ps,?_,h⟩
   simp [List.zip_map']
theorem ib (l b:Addr) (ps:List ((Int×Tok)×(Int×Tok))) (n n2:Nat) :
  Meets (Builtin.«tuple.__lt__» ⟨[.ref l,.ref b],[]⟩)
   (fun A R s=>s.heap.get? l=some (eY (ps.map fun p=>.int p.1.1 p.1.2) n)/\s.heap.get? b=some (eY (ps.map fun p=>.int p.2.1 p.2.2) n2)/\
    R (.ok (.ret (.bool (lex (fun a b=>decide (a<b)) false (ps.map fun p=>(p.1.1,p.2.1)))))) s):=
 .of_wp fun prog w A R s h=>by
  obtain ⟨hp,g,d,tk,os⟩:=s; obtain ⟨hl,hb,h⟩:=h
  have f2:=AutoSeq1.sub_tuple_tuple
  wp_walk using wpAny_loadPart' hl,wpAny_loadPart' hb,wpAny_forIn_list _ (fun rest b s'=>b.1=none/\s'=⟨hp,g,d,tk,os⟩/\∃ qs:List ((Int×Tok)×(Int×Tok)),rest=qs.map (fun p=>(Value.int p.1.1 p.1.2,Value.int p.2.1 p.2.2))/\
   R (.ok (.ret (.bool (lex (fun a b=>decide (a<b)) false (qs.map fun p=>(p.1.1,p.2.1)))))) ⟨hp,g,d,tk,os⟩) _
  case turn=>
   rintro ⟨y,x⟩ rest b s' ⟨hb',rfl,qs,hz,hR⟩
   induction qs using List.casesOn with
   | nil=>exact cN' hz
   | cons q qs=>
    injection hz with hyx hrest
    injection hyx with hy hx
    subst hy hx
    refine aa (EqAt.int_int (A:=A.in1) q.1.1 q.1.2 q.2.1 q.2.2 prog w _ _ ?_)
    cases hc:(q.1.1 == q.2.1) with
    | true=>
     wp_walk
     exact ⟨rfl,rfl,qs,hrest,by simpa [lex,hc] using hR⟩
    | false=>
     have key:∀ (Q:Value->Shared->Prop) E s',Q (.bool (decide (q.1.1<q.2.1))) s'->wpAny (model prog w) A.in1 (richCompare .Lt (.int q.1.1 q.1.2) (.int q.2.1 q.2.2)) Q E s':=fun Q E s' hq=>lt_int hq
     refine rP (aY (by rfl)) ?_
     exact aa (wpAny_rule (aa (key _ _ _ (aa (ab (ab (ab ⟨_,rfl,by simpa [lex,hc] using hR⟩)))))))
  case fin=>
   rintro ⟨b1,b2⟩ s' ⟨hb',rfl,qs,hz,hR⟩
   simp only at hb'
   subst hb'
   induction qs using List.casesOn with
   | cons q qs=>exact nC hz
   | nil=>
    wp_walk
    exact ⟨_,rfl,by simpa [Builtin.Tuple.tupleCompareSizes,lex] using hR⟩
  case h=>
   refine ⟨rfl,rfl,ps,?_,h⟩
   simp [List.zip_map']
end
section
section
variable {c:Cst}{A:Around}{env:Env}{led:Led}{Z Z':HP}{s:Shared}
theorem isStr {prog:Program}{w:World}{k:Str}{v:Value} (h:(strKind prog w).is k v=true):∃ t,v = .str k t:=Value.isStrOf_shape h
theorem AEs.of {w:World}{prog:Program}{es:List DictEntry}{kv:List (Str×Value)}{kvs:List (Str×D)} (p:Pairs (strKind prog w) es kv) (hk:∀ e∈es,∃ k,(strKind prog w).is k e.key=true/\e.hash=(strKind prog w).hash k)
  (a:AVs w Z (kv.map (·.2)) (kvs.map (·.2))) (e:kv.map (·.1)=kvs.map (·.1)):AEs w Z es kvs:=by
 refine kvInd (P:=fun kv kvs=>∀ es,Pairs (strKind prog w) es kv->(∀ e∈es,∃ k,(strKind prog w).is k e.key=true/\e.hash=(strKind prog w).hash k)->AEs w Z es kvs) ?_ ?_ e a es p hk
 ·intro es p _
  cases p; exact .nil
 ·intro k v d kv kvs av ih es p hk
  cases p with
  | @cons e _ es _ h1 h2 h3=>
   obtain ⟨k2,q1,q2⟩:=hk _ (.head _)
   have ih:=ih es h3 fun e he=>hk e (.tail _ he)
   obtain ⟨hh,key,val⟩:=e
   obtain ⟨t,h1⟩:=isStr h1
   obtain ⟨t2,q1⟩:=isStr q1
   have q3:k2=k:=(Value.str.inj (q1.symm.trans h1)).1
   have q2:hh=hashStr w k:=q3 ▸ q2
   have h1:key = .str k t:=h1
   have h2:val=v:=h2
   exact rP q2 (rP h1 (rP h2 (.cons av ih)))
inductive Kd (h:Heap) (a:Addr) (w:World) (Z:HP) (prog:Program) (kvs:List (Str×D)):Prop
 | mk (kv:List (Str×Value)):h.DictOf (strKind prog w) a kv->kv.map (·.1)=kvs.map (·.1)->AVs w Z (kv.map (·.2)) (kvs.map (·.2))->Kd h a w Z prog kvs
theorem dictOf {h:Heap}{a:Addr}{es:List DictEntry}{n:Nat}{kvs:List (Str×D)} (prog:Program){w:World} (e:h.get? a=some (eR es n)) (x:AEs w Z es kvs) (hn:(kvs.map (·.1)).Nodup):Kd h a w Z prog kvs:=by
 obtain ⟨kv,h1,h3,h4,h5⟩:=x.vals (prog:=prog)
 exact ⟨kv,⟨_,es.toArray,n,e,⟨rfl,rfl,rfl⟩,rfl,fun e he=>h4 e he.val,h3,rP h1 hn⟩,h1,h5⟩
theorem ofDict {h:Heap}{a:Addr}{kvs:List (Str×D)}{prog:Program}{w:World}{kv:List (Str×Value)} (x:h.DictOf (strKind prog w) a kv) (e:kv.map (·.1)=kvs.map (·.1)) (av:AVs w Z (kv.map (·.2)) (kvs.map (·.2))) :
  ∃ es n,h.get? a=some (eR es n)/\AEs w Z es kvs/\(kvs.map (·.1)).Nodup:=by
 obtain ⟨o,es,ep,ho,⟨x1,x2,x3⟩,hd,hk,hp,hn⟩:=x
 refine ⟨es.toList,ep,?_,AEs.of hp (fun e he=>hk e ⟨he⟩) av e,rQ e hn⟩
 refine rP ho ?_
 obtain ⟨o1,o2,o3,o4⟩:=o
 have x1:o1=_:=x1
 have x2:o2=_:=x2
 have x3:o4=_:=x3
 have hd:o3=_:=hd
 exact rP x1 (rP x2 (rP x3 (rP hd rfl)))
noncomputable def cM (l:List (Str×D)) (k:Str):Option D:=l.lookup k
noncomputable def fy (l:List (Str×D)) (k:Str) (d:D):List (Str×D):=if l.any (fun p=>p.1 == k) then l.map (fun p=>if p.1 == k then (p.1,d) else p) else l++[(k,d)]
theorem ji {l:List (Str×D)}{k1 k:Str}{d:D}:cM ((k1,d)::l) k=if k1=k then some d else cM l k:=by
 unfold cM
 refine rP aS ?_
 by_cases q:k1=k
 ·exact rP (aY q) (rP (beq_iff_eq.2 q.symm) rfl)
 ·exact rP (aX q) (rP (beq_false_of_ne (Ne.symm q)) rfl)
theorem cA {w:World}{k:Str}{kv:List (Str×Value)}{kvs:List (Str×D)} (e:kv.map (·.1)=kvs.map (·.1)) (a:AVs w Z (kv.map (·.2)) (kvs.map (·.2))) :
  (∀ d,cM kvs k=some d->∃ v,valueAt kv k=some v/\AV w Z v d)/\(cM kvs k=none->valueAt kv k=none):=by
 refine kvInd (P:=fun kv kvs=>(∀ d,cM kvs k=some d->∃ v,valueAt kv k=some v/\AV w Z v d)/\(cM kvs k=none->valueAt kv k=none)) ⟨(fun d h=>nS h),fun u_=>rfl⟩ ?_ e a
 intro k1 v d kv kvs a ih
 refine rP ji ?_
 by_cases q:k1=k
 ·refine rP (aY q) ⟨fun d' h=>⟨v,?_,Option.some.inj h ▸ a⟩,fun h=>sN h⟩
  exact congrArg (Option.map (·.2)) (List.find?_cons_of_pos (p:=fun kv:Str×Value=>decide (kv.1=k)) (a:=(k1,v)) (be q))
 ·refine rP (aX q) ?_
  have g:valueAt ((k1,v)::kv) k=valueAt kv k:=congrArg (Option.map (fun kv:Str×Value=>kv.2)) (List.find?_cons_of_neg (l:=kv) (p:=fun kv:Str×Value=>decide (kv.1=k)) (a:=(k1,v)) (fun h=>q (of_decide_eq_true h)))
  exact rP g ih
theorem jT {k:Str}{v:Value}{d:D}{kv:List (Str×Value)}{kvs:List (Str×D)}{w:World} (e:kv.map (·.1)=kvs.map (·.1)) (a:AVs w Z (kv.map (·.2)) (kvs.map (·.2))) (av:AV w Z v d) :
  (stored kv k v).map (·.1)=(fy kvs k d).map (·.1)/\AVs w Z ((stored kv k v).map (·.2)) ((fy kvs k d).map (·.2)):=by
 have hany:kv.any (fun p=>decide (p.1=k))=kvs.any (fun p=>p.1 == k):=by
  have:∀ {α:Type} (l:List (Str×α)),l.any (fun p=>p.1 == k)=(l.map (·.1)).any (· == k):=fun l=>by refine rP List.any_map ?_; rfl
  refine rP (this kvs) (rQ e (rQ (this kv) ?_))
  congr 1
 unfold stored fy
 refine rP hany ?_
 cases kvs.any (fun p=>p.1 == k) with
 | false=>
  refine rP (aX Bool.false_ne_true) (rP (aX Bool.false_ne_true) (rP aI (rP aI (rP aI (rP aI ?_)))))
  exact ⟨rP e rfl,a.snoc av⟩
 | true=>
  refine rP (aY rfl) (rP (aY rfl) ?_)
  refine kvInd (P:=fun kv kvs=>(kv.map (fun kv=>if kv.1=k then (kv.1,v) else kv)).map (·.1)=(kvs.map (fun p=>if p.1 == k then (p.1,d) else p)).map (·.1)/\AVs w Z ((kv.map (fun kv=>if kv.1=k then (kv.1,v) else kv)).map (·.2)) ((kvs.map (fun p=>if p.1 == k then (p.1,d) else p)).map (·.2))) ⟨rfl,.nil⟩ ?_ e a
  intro k1 v1 d1 kv kvs a ih
  have h:(if k1=k then (k1,v) else (k1,v1)).1=(if (k1 == k)=true then (k1,d) else (k1,d1)).1/\AV w Z (if k1=k then (k1,v) else (k1,v1)).2 (if (k1 == k)=true then (k1,d) else (k1,d1)).2:=by
   by_cases q:k1=k
   ·exact rP (aY q) (rP (aY (beq_iff_eq.2 q)) ⟨rfl,av⟩)
   ·exact rP (aX q) (rP (aX (fun e=>q (beq_iff_eq.1 e))) ⟨rfl,a⟩)
  refine ⟨?_,.cons h.2 ih.2⟩
  exact List.cons_eq_cons.2 ⟨h.1,ih.1⟩
section
variable {k:Str}{kvs:List (Str×D)}{a:Addr}{Q:D->Led->Prop}
theorem wpIn {d:Addr}{t:Tok}{es:List DictEntry}{n:Nat} (r:R c Z led s) (e:s.heap.get? d=some (eR es n)) (x:AEs c.w Z es kvs) (hn:(kvs.map (·.1)).Nodup) (hd:(d == sysModules)=false)
  (h:Q (.bool (cM kvs k).isSome) led):wpAny c.M A (compareOp .In (.str k t) (.ref d)) (P1 c Z Q) noE s:=by
 obtain ⟨kv,h1,h2,h3⟩:=dictOf c.prog e x hn
 refine wpAny_in_of lC hd h1.mapOf ?_
 obtain ⟨g1,g2⟩:=cA (k:=k) h2 h3
 have:(valueAt kv k).isSome=(cM kvs k).isSome:=by
  cases q:cM kvs k with
  | none=>refine rP (g2 q) ?_; rfl
  | some d=>obtain ⟨v,e,_⟩:=g1 d q; refine rP e ?_; rfl
 refine rP this ?_
 exact mk1 (r.toks _) .bool h
theorem Cmp.inM (ok:c.Ok) (hm:At led a (.dic kvs)) (h:Q (.bool (cM kvs k).isSome) led):Cmp c A .In (.str k) (.ref a) led Q:=fun Z s v u r x y=>x.str' fun t=>y.val' <| by
 obtain ⟨o,ho,hx⟩:=r.at_ hm
 induction hx using Ch.On.eDic with
 | dic e n=>exact wpIn r ho e n (r.noSys ok (r.dis _ hm.mem)) h
theorem wpGet {d:Addr}{t:Tok}{es:List DictEntry}{n:Nat}{x:D} (r:R c Z led s) (e:s.heap.get? d=some (eR es n)) (y:AEs c.w Z es kvs) (hn:(kvs.map (·.1)).Nodup) (hx:cM kvs k=some x)
  (h:Q x led):wpAny c.M A (getItem (.ref d) (.str k t)) (P1 c Z Q) noE s:=by
 obtain ⟨kv,h1,h2,h3⟩:=dictOf c.prog e y hn
 obtain ⟨g1,g2⟩:=cA (k:=k) h2 h3
 obtain ⟨v,e,av⟩:=g1 _ hx
 exact wpAny_getItem_of lC h1.mapOf e (mk1 (r.toks _) av h)
theorem Sub.dic {val sl:Expr}{x:D} (hs:eC sl) (hx:cM kvs k=some x) (h:Q x led):Sub c A val sl (.dic kvs) (.str k) led Q:=fun Z s v u r y z=>y.dic' fun d es n e a hn hd=>z.str' fun t=>
 have e':=r.zin _ _ e
 tail_any ⟨_,e',rfl⟩ slot_dict_getitem.lookup (wpGet r e' a hn hx h) (hs _ _)
theorem Sit.dic {d:D}{led':Led}{Q:Led->Prop} (u:Up led a (.dic kvs) (.dic (fy kvs k d)) led') (hz:kvs.length<=sizeLine) (h:Q led'):Sit c A (.ref a) (.str k) d led Q:=fun Z s v k' x r y z av=>y.val' <| z.str' fun t=>by
 obtain ⟨o,ho,hx⟩:=r.at_ u.at
 induction hx using Ch.On.eDic with
 | dic e n=>
  obtain ⟨kv,h1,h2,h3⟩:=dictOf c.prog ho e n
  refine wpAny_setItem_pairs (hsz:=by have:=congrArg List.length h2; simp at this; exact nT (aq this) hz) lC h1 fun h' hd hs=>?_
  obtain ⟨g1,g2⟩:=jT (k:=k) h2 h3 av
  obtain ⟨es,n,e1,e2,e3⟩:=ofDict hd g1 g2
  exact mkU (r.turn (t:=s.toks+1) u hs e1 (.dic e2 e3)) h
theorem wpVal {d:Addr}{es:List DictEntry}{n:Nat} (r:R c Z led s) (e:Z d=some (eR es n)) (x:AEs c.w Z es kvs) (hn:(kvs.map (·.1)).Nodup) (hd:(d == sysModules)=false) :
  (Q (.its kvs) led->wpAny c.M A (call (.builtin "dict.items") [.ref d]) (P1 c Z Q) noE s)/\(Q (.vws kvs) led->wpAny c.M A (call (.builtin "dict.values") [.ref d]) (P1 c Z Q) noE s):=by
 obtain ⟨kv,h1,h2,h3⟩:=dictOf c.prog (r.zin _ _ e) x hn
 constructor
 ·intro q
  obtain ⟨hz,r2⟩:=r.pushZ (o:=cw "dict_items" [.ref d]) rfl
  exact call_meetsIn F.slot_dict_items h1.mapOf.typeIs F.entry_dict_items (F.args_dict_items_1 _) (meets_dict_items (strKind c.prog c.w) d hd) ⟨⟨kv,h1⟩,⟨_,led,_,hz,r2,.its HP.sf (hz _ _ e) (x.mono hz) hn,q⟩⟩
 ·intro q
  obtain ⟨hz,r2⟩:=r.pushZ (o:=cw "dict_values" [.ref d]) rfl
  exact call_meetsIn F.slot_dict_values h1.mapOf.typeIs F.entry_dict_values (F.args_dict_values_1 _) (meets_dict_values (strKind c.prog c.w) d hd) ⟨⟨kv,h1⟩,⟨_,led,_,hz,r2,.vws HP.sf (hz _ _ e) (x.mono hz) hn,q⟩⟩
theorem Cl.items (h:Q (.its kvs) led):Cl c A (.val (.builtin "dict.items")) [.dic kvs] led Q:=.of1 fun Z s v r y=>y.dic' fun d es n e a hn hd=>(wpVal r e a hn hd).1 h
theorem Cl.values (h:Q (.vws kvs) led):Cl c A (.val (.builtin "dict.values")) [.dic kvs] led Q:=.of1 fun Z s v r y=>y.dic' fun d es n e a hn hd=>(wpVal r e a hn hd).2 h
theorem Cl.get2 {d:D} (ok:c.Ok) (hm:At led a (.dic kvs)) (h:Q ((cM kvs k).getD d) led):Cl c A (.val (.builtin "dict.get")) [.ref a,.str k,d] led Q:=fun Z s u_ u_ r x y=>x.val' <| y.cons' fun v vs y z=>y.val' <| z.two' fun u w z av=>z.str' fun t=>by
 obtain ⟨o,ho,hx⟩:=r.at_ hm
 induction hx using Ch.On.eDic with
 | dic e n=>
  obtain ⟨kv,h1,h2,h3⟩:=dictOf c.prog ho e n
  obtain ⟨g1,g2⟩:=cA (k:=k) h2 h3
  refine call_meetsIn F.slot_dict_get h1.mapOf.typeIs F.entry_dict_get (F.args_dict_get_3 _ _ _) (meets_dict_get_default (strKind c.prog c.w) _ lC (r.noSys ok (r.dis _ hm.mem)) w) ⟨_,h1.mapOf,?_⟩
  cases q:cM kvs k with
  | none=>refine rP (g2 q) ?_; rw [q] at h; exact mk1 (r.toks _) av h
  | some d'=>obtain ⟨v',e,av'⟩:=g1 d' q; refine rP e ?_; rw [q] at h; exact mk1 (r.toks _) av' h
theorem Ev.frz {x:Str}{pos:Pos}{m:List (Str×D)}{d:D}{ch:Ch}{led₁ led₂:Led} (hk:env.scope.kind = .function) (hl:env.kindOf x=some .local) (hx:m.lookup x=some (.ref a)) (hd:(x == ("__debug__" : Str))=false)
  (tk:Take led a ch led₁) (u:Up led₁ env.locals (.ns m) (.ns ((x,d)::m)) led₂) (hf:∀ Z o,Z a=none->ch.On c.w Z o->(a == sysModules)=false->AV c.w (Z.add a o) (.ref a) d) (ok:c.Ok) (h:Q d led₂):Ev c A env (.Name x pos) led Q:=fun Z s r=>by
 obtain ⟨mv,hn,k⟩:=(r.take tk).ns u.at
 obtain ⟨v,hv,ha⟩:=k _ _ hx
 cases ha using AV.eVal
 have na:=r.noSys ok (r.dis _ tk.at.mem)
 obtain ⟨o,ho,hz,r2⟩:=r.freeze tk
 have av:=hf Z o (r.dis _ tk.at.mem) ho na
 obtain ⟨o2,es,ep,g1,g2,g3,g4⟩:=hn
 have r3:=r2.turn (t:=s.toks) u (Heap.SameBut.refl ..) g1 (.ns g2 g3 (mv:=mv) g4 fun y e hy=>by
  rw [aS] at hy
  by_cases q:y=x
  ·subst q
   simp at hy
   subst hy
   exact ⟨_,hv,av⟩
  ·rw [beq_false_of_ne q] at hy
   obtain ⟨v',h1,h2⟩:=k y e hy
   exact ⟨v',h1,h2.mono hz⟩)
 exact wpAny_Name (wpAny_loadName_local hk hl ⟨o2,es,ep,g1,g2,g3,g4⟩ hv ⟨_,led₂,d,hz,r3,av,h⟩) hd
theorem frzL {ds:List D}:∀ Z o,Z a=none->Ch.On c.w Z (.lst ds) o->(a == sysModules)=false->AV c.w (Z.add a o) (.ref a) (.lst ds):=fun Z o z x u_=>by
 induction x using Ch.On.eLst with
 | lst av=>exact .lst HP.sf (av.mono (HP.le_add z))
theorem frzD:∀ Z o,Z a=none->Ch.On c.w Z (.dic kvs) o->(a == sysModules)=false->AV c.w (Z.add a o) (.ref a) (.dic kvs):=fun Z o z x h=>by
 induction x using Ch.On.eDic with
 | dic av n=>exact .dic HP.sf (av.mono (HP.le_add z)) n h
theorem Ev.dicM {pos:Pos} (h:∀ a,Q (.ref a) ((a,.dic [])::led)):Ev c A env (.Dict [] [] pos) led Q:=fun Z s r=>by
 refine rP (eval_Dict_empty _) ?_
 refine aa (wpAny_standAt ?_)
 unfold newDict
 exact bp ⟨Z,_,_,.rfl,r.push (o:=eR [] 0) (.dic .nil .nil),.val,h _⟩
theorem Ev.dic0 {pos:Pos} (ok:c.Ok) (h:Q (.dic []) led):Ev c A env (.Dict [] [] pos) led Q:=fun Z s r=>by
 refine rP (eval_Dict_empty _) ?_
 refine aa (wpAny_standAt ?_)
 unfold newDict
 obtain ⟨hz,r2⟩:=r.pushZ (o:=eR [] 0) rfl
 exact bp ⟨_,led,_,hz,r2,.dic HP.sf .nil .nil (r.noSys ok r.fresh),h⟩
end
end
end
section
open PySem.SeqAt PySem.MeetsSeq PySem.MeetsSeq2 PySem.MeetsSeq3 PySem.SeqRoads2
open PySem.AutoSeq1 (wpAny_loadPart')
section
variable {c:Cst}{A:Around}{env:Env}{led:Led}{Z Z':HP}{s:Shared}{Q:D->Led->Prop}
noncomputable def lD (d e:D):Option Bool:=
 match d with
 | .int a=>(match e with
  | .int b=>some (a == b)
  | _=>none)
 | .str a=>(match e with
  | .str b=>some (a == b)
  | _=>none)
 | _=>none
theorem kM {P:D->D->Bool->Prop} (hi:∀ i j,P (.int i) (.int j) (i == j)) (hs:∀ x y,P (.str x) (.str y) (x == y)){d e:D}{b:Bool} (h:lD d e=some b):P d e b:=by
 cases d with
 | int i=>
  cases e with
  | int j=>exact Option.some.inj h ▸ hi i j
  | _=>exact nS h
 | str i=>
  cases e with
  | str j=>exact Option.some.inj h ▸ hs i j
  | _=>exact nS h
 | _=>exact nS h
theorem fA {w:World}{v u:Value}{d e:D}{b:Bool} (h:lD d e=some b) (x:AV w Z v d) (y:AV w Z u e):EqAt A s v u b:=by
 revert x y
 exact kM (P:=fun d e b=>AV w Z v d->AV w Z u e->EqAt A s v u b) (fun u_ u_ x y=>x.int' fun t=>y.int' fun t'=>.int_int _ _ _ _) (fun u_ u_ x y=>x.str' fun t=>y.str' fun t'=>.str_str _ _ _ _) h
noncomputable def All2 (P:D->D->Prop) (l m:List D):Prop:=l.length=m.length/\∀ (j:Nat) x y,l[j]? = some x->m[j]? = some y->P x y
noncomputable def Same:Nat->D->D->Prop
 | 0,d,e=>lD d e=some true
 | n+1,d,e=>lD d e=some true\/(∃ l m,d = .tup l/\e = .tup m/\All2 (Same n) l m)\/(∃ l m,d = .lst l/\e = .lst m/\All2 (fun x y=>lD x y=some true) l m)\/
   (∃ k m,d = .dic k/\e = .dic m/\k.length=m.length/\∀ p∈k,∃ y,cM m p.1=some y/\Same n p.2 y)
noncomputable def EqC (c:Cst) (A:Around) (s:Shared) (y x:Value):Prop:=∀ (E:Value->Shared->Prop) (Q:Bool->Shared->Prop),Q true s->wpAny c.M A (eqBool y x) Q E s
theorem EqC.of {y x:Value} (h:EqAt A s y x true):EqC c A s y x:=fun E Q q=>h c.prog c.w E Q q
theorem EqC.refs {l b:Addr} (h:l≠b->∀ (E:Value->Shared->Prop) (Q:Value->Shared->Prop),Q (.bool true) s->wpAny c.M A (richCompare .Eq (.ref l) (.ref b)) Q E s):EqC c A s (.ref l) (.ref b):=fun E Q hq=>by
 by_cases e:l=b
 ·subst e; exact EqAt.same (A:=A) (s:=s) (.ref l) c.prog c.w E Q hq
 ·unfold eqBool
  refine aV ?_
  refine wpAny_ite_split (fun hab=>absurd (by have:=eq_of_beq hab; injection this) e) (fun u_=>?_)
  exact aa (h e E _ (wpAny_truthy_bool hq))
noncomputable abbrev TupS (c:Cst) (l b:Addr) (vs us:List Value) (n n2:Nat) (r:Bool):PySem.Spec:=fun A R s=>s.heap.get? l=some (eY vs n)/\s.heap.get? b=some (eY us n2)/\vs.length=us.length/\(∀ p∈vs.zip us,EqC c A.in1 s p.1 p.2)/\R (.ok (.ret (.bool r))) s
theorem mJ (l b:Addr) (vs us:List Value) (n n2:Nat):MeetsIn c.prog c.w (Builtin.«tuple.__eq__» ⟨[.ref l,.ref b],[]⟩) (TupS c l b vs us n n2 true):=
 .of_wp fun A R s h=>by
  obtain ⟨hp,g,d,tk,os⟩:=s; obtain ⟨hl,hb,hn,he,h⟩:=h
  have f2:=AutoSeq1.sub_tuple_tuple
  wp_walk using wpAny_loadPart' hl,wpAny_loadPart' hb,wpAny_forIn_list _ (fun rest b s'=>b.1=none/\s'=⟨hp,g,d,tk,os⟩/\∀ p∈rest,EqC c A.in1 ⟨hp,g,d,tk,os⟩ p.1 p.2) _
  case turn=>
   rintro ⟨y,x⟩ rest b s' ⟨hb',rfl,hz⟩
   refine aa (hz _ (.head _) _ _ ?_)
   wp_walk
   exact ⟨rfl,rfl,fun p hp=>hz p (.tail _ hp)⟩
  case fin=>
   rintro ⟨b1,b2⟩ s' ⟨hb',rfl,hz⟩
   simp -iota only at hb'
   subst hb'
   wp_walk
   exact ⟨_,rfl,by simpa -iota [Builtin.Tuple.tupleCompareSizes,hn] using h⟩
  case h=>exact ⟨rfl,rfl,by simpa -iota using he⟩
theorem mK (l b:Addr) (vs us:List Value) (n n2:Nat):MeetsIn c.prog c.w (Builtin.«tuple.__ne__» ⟨[.ref l,.ref b],[]⟩) (TupS c l b vs us n n2 false):=
 .of_wp fun A R s h=>by
  obtain ⟨hp,g,d,tk,os⟩:=s; obtain ⟨hl,hb,hn,he,h⟩:=h
  have f2:=AutoSeq1.sub_tuple_tuple
  wp_walk using wpAny_loadPart' hl,wpAny_loadPart' hb,wpAny_forIn_list _ (fun rest b s'=>b.1=none/\s'=⟨hp,g,d,tk,os⟩/\∀ p∈rest,EqC c A.in1 ⟨hp,g,d,tk,os⟩ p.1 p.2) _
  case turn=>
   rintro ⟨y,x⟩ rest b s' ⟨hb',rfl,hz⟩
   refine aa (hz _ (.head _) _ _ ?_)
   wp_walk
   exact ⟨rfl,rfl,fun p hp=>hz p (.tail _ hp)⟩
  case fin=>
   rintro ⟨b1,b2⟩ s' ⟨hb',rfl,hz⟩
   simp -iota only at hb'
   subst hb'
   wp_walk
   exact ⟨_,rfl,by simpa -iota [Builtin.Tuple.tupleCompareSizes,hn] using h⟩
  case h=>exact ⟨rfl,rfl,by simpa -iota using he⟩
theorem getArr {vs:List Value}{j:Nat} (h:j<vs.toArray.size):vs[j]? = some vs.toArray[j]:=by
 rw [aE] at h
 refine rP (ao h) ?_; simp -iota
theorem ic (n:Nat):(List.range n).all (fun u_=>true)=true:=by refine rP (propext (List.all_eq_true)) ?_; exact fun u_ u_=>rfl
theorem lE {nm:String}{a b:Addr}{ka kb:List (Str×Value)}{Q:Bool->Shared->Prop}{E:Value->Shared->Prop} (ha:(a == sysModules)=false) (hb:(b == sysModules)=false)
  (da:s.heap.DictOf (strKind c.prog c.w) a ka) (db:s.heap.DictOf (strKind c.prog c.w) b kb) (hl:ka.length=kb.length) (hits:∀ p∈ka,∃ y,valueAt kb p.1=some y/\EqC c A s p.2 y) (h:Q true s) :
  wpAny c.M A (Builtin.Dict.samePairs nm a b) Q E s:=by
 obtain ⟨oa,es,ep,hoa,_,hda,hka,hpa,_⟩:=da
 obtain ⟨ob,es',ep',hob,_,hdb,hkb,hpb,_⟩:=db
 have hla:ka.length=es.size:=by refine rQ hpa.length ?_; exact Array.length_toList
 have hlb:kb.length=es'.size:=by refine rQ hpb.length ?_; exact Array.length_toList
 have hfind:∀ k,findBy (strKind c.prog c.w).is es' k=valueAt kb k:=fun k=>by
  refine rQ (hpb.find k) ?_
  clear hlb hpb hkb hdb hob
  obtain ⟨l⟩:=es'
  simp -iota [findBy]
 have hsz:es.size=es'.size:=by exact Nat.le_antisymm (nT (aq hla.symm) (nT (aq hl) (aq hlb))) (nT (aq hlb.symm) (nT (aq hl.symm) (aq hla)))
 unfold Builtin.Dict.samePairs Builtin.Dict.showsAll
 refine rP (aX (show ¬ (a == sysModules)=true by rw [ha]; exact Bool.false_ne_true)) (rP (aX (show ¬ (b == sysModules)=true by rw [hb]; exact Bool.false_ne_true)) ?_)
 refine aa (ab (aa (ab ?_)))
 refine aa (wpAny_dictEntries hoa hda ?_)
 dsimp only
 refine aa (wpAny_dictEntries hob hdb ?_)
 refine rP (aX (by rw [hsz]; simp -iota)) ?_
 refine aa (wpAny_dictEpoch hoa hda ?_)
 refine aa ?_
 refine rP (Std.Legacy.Range.forIn_eq_forIn_range' _ _ _) ?_
 simp -iota only [Std.Legacy.Range.size,Nat.sub_zero,Nat.add_sub_cancel,Nat.div_one]
 refine wpAny_forIn_list _ (fun rest q s'=>s'=s/\q=(none,())/\∃ i,rest=List.range' i (es.size - i)/\i<=es.size) _ ?_ ?_ _ _ ⟨rfl,rfl,0,by simp,aO _⟩
 ·rintro x rest q s' ⟨rfl,rfl,i,hr,hi⟩
  have hlt:i<es.size:=by
   rcases Nat.lt_or_ge i es.size with h | h
   ·exact h
   ·rw [bg h] at hr; simp -iota at hr
  obtain ⟨rfl,hrest⟩:x=i/\rest=List.range' (i+1) (es.size - (i+1)):=by
   have e:es.size - i=(es.size - (i+1))+1:=by exact subS hlt
   rw [e,List.range'_succ] at hr
   injection hr with h1 h2
   exact ⟨h1,h2⟩
  refine aa (wpAny_dictEntries hoa hda ?_)
  refine rP (Array.getElem?_eq_getElem hlt) ?_
  have hlt':x<ka.length:=by refine rP hla ?_; exact hlt
  obtain ⟨k,v,hkv⟩:∃ k v,ka[x]=(k,v):=⟨_,_,rfl⟩
  obtain ⟨hkey,hval⟩:=hpa.get? (i:=x) (e:=es[x]) (k:=k) (v:=v) (by refine rP Array.getElem?_toList ?_; exact Array.getElem?_eq_getElem hlt) (by exact rP (ao hlt') (rP hkv rfl))
  obtain ⟨k',hk',hh⟩:=hka es[x] (Array.getElem_mem hlt)
  have ekk:k'=k:=(strKind c.prog c.w).inj _ _ _ hk' hkey
  rw [ekk] at hh
  obtain ⟨y,hy,heq⟩:=hits ka[x] (List.getElem_mem hlt')
  rw [hkv] at hy heq
  refine (?_:wpAny _ _ (holding [es[x].key,es[x].val] _ >>= _) _ _ _)
  refine rP hh ?_
  refine aa (aV (aa (wpAny_dictFind_of hkey hob hdb hkb ?_)))
  cases hj:es'.findIdx? fun e=>(strKind c.prog c.w).is k e.key with
  | none=>
   have hn:valueAt kb k=none:=by exact rQ (hfind k) (rP (findBy_of_findIdx? _ _ _) (rP hj rfl))
   rw [hn] at hy; exact nomatch hy
  | some j=>
   obtain ⟨hjlt,_,_⟩:=Array.findIdx?_eq_some_iff_getElem.mp hj
   have hv':valueAt kb k=some es'[j].val:=by
    refine rQ (hfind k) (rP (findBy_of_findIdx? _ _ _) (rP hj ?_))
    simp [Array.getElem?_eq_getElem hjlt]
   refine aa (wpAny_dictEntries hob hdb ?_)
   refine rP (Array.getElem?_eq_getElem hjlt) ?_
   have ey:es'[j].val=y:=Option.some.inj (hv'.symm.trans hy)
   rw [<- ey,<- hval] at heq
   refine aV (heq _ _ ?_)
   refine (?_:wpAny _ _ (if (!true)=true then _ else _) _ _ _)
   refine rP (aX (by decide)) ?_
   refine aa (wpAny_dictEpoch hoa hda ?_)
   refine rP (aX (by simp -iota)) ?_
   exact ab ⟨rfl,rfl,x+1,hrest,hlt⟩
 ·rintro q s' ⟨rfl,rfl,i,hr,hi⟩
  exact ab h
theorem eE {w:World}{P:D->D->Prop}{l m:List D} (h:All2 P l m){vs us:List Value} (a:AVs w Z vs l) (b:AVs w Z us m):vs.length=us.length/\∀ p∈vs.zip us,∃ x y,P x y/\AV w Z p.1 x/\AV w Z p.2 y:=by
 refine ⟨by exact rP a.length (rP b.length (rP h.1 rfl)),fun p hp=>?_⟩
 obtain ⟨j,hj,e⟩:=List.mem_iff_getElem.mp hp
 rw [List.length_zip] at hj
 rw [List.getElem_zip] at e
 have h1:j<l.length:=by refine rQ a.length ?_; exact nT hj (Nat.min_le_left _ _)
 have h2:j<m.length:=by refine rQ b.length ?_; exact nT hj (Nat.min_le_right _ _)
 obtain ⟨v,q1,q2⟩:=a.get (ao h1)
 obtain ⟨u,q3,q4⟩:=b.get (ao h2)
 rw [ao (by (first | exact nT hj (Nat.min_le_left _ _) | exact nT hj (Nat.min_le_right _ _)))] at q1 q3
 injection q1 with q1
 injection q3 with q3
 subst q1 q3 e
 exact ⟨_,_,h.2 j _ _ (ao h1) (ao h2),q2,q4⟩
theorem Same.eqC (n:Nat):∀ {A:Around}{d e:D}{v u:Value},Same n d e->AV c.w Z v d->AV c.w Z u e->R c Z led s->A.units+n<cLine->EqC c A s v u:=by
 induction n with
 | zero=>intro A d e v u h x y _ _; exact .of (fA h x y)
 | succ n ih=>
  intro A d e v u h x y r hu
  have hu0:A.units<cLine:=by lia
  have hu1:A.in1.units+n<cLine:=by show A.units+1+n<cLine; exact lenA hu
  rcases h with h | ⟨l,m,rfl,rfl,ha⟩ | ⟨l,m,rfl,rfl,ha⟩ | ⟨k,m,rfl,rfl,hl,ha⟩
  ·exact .of (fA h x y)
  ·refine x.tup' fun a vs na ea av=>y.tup' fun b us nb eb bv=>?_
   obtain ⟨g1,g2⟩:=eE ha av bv
   refine .refs fun u_ E Q hq=>wpAny_richCompare_same_room (op:=.Eq) (bL (r.zin _ _ ea)).typeIs (bL (r.zin _ _ eb)).typeIs F.slot_tuple_eq
    (call_meetsIn F.slot_tuple_eq (bL (r.zin _ _ ea)).typeIs F.entry_tuple_eq (F.args_tuple_eq_2 _ _) (mJ a b vs us na nb) ⟨r.zin _ _ ea,r.zin _ _ eb,g1,fun p hp=>?_,(fun x=>nomatch x),hq⟩) hu0
   obtain ⟨d1,d2,k1,k2,k3⟩:=g2 p hp
   exact ih k1 k2 k3 r hu1
  ·refine x.lst' fun a vs na ea av=>y.lst' fun b us nb eb bv=>?_
   obtain ⟨g1,g2⟩:=eE ha av bv
   refine .refs fun u_ E Q hq=>?_
   have:=RcAt.lists (e:=fun u_=>true) (bx (r.zin _ _ ea)) (bx (r.zin _ _ eb)) (by exact rP aE (rP aE (rP g1 rfl))) hu0 (fun j h1 h2=>by
    obtain ⟨d1,d2,k1,k2,k3⟩:=g2 (vs.toArray[j],us.toArray[j]) (by
     rw [aE] at h1 h2
     refine rP (propext (List.mem_iff_getElem)) ?_
     exact ⟨j,by refine rP List.length_zip ?_; exact minL g1 (by assumption),by simp -iota⟩)
    exact fA k1 k2 k3) c.prog c.w E Q
   rw [ic] at this
   exact this hq
  ·refine x.dic' fun a vs na ea av hna ka=>y.dic' fun b us nb eb bv hnb kb=>?_
   obtain ⟨kv,h1,h2,h3⟩:=dictOf c.prog (r.zin _ _ ea) av hna
   obtain ⟨ku,g1,g2,g3⟩:=dictOf c.prog (r.zin _ _ eb) bv hnb
   refine .refs fun u_ E Q hq=>wpAny_richCompare_same_room (op:=.Eq) h1.typeIs g1.typeIs PySem.F.slot_dict_eq (wpAny_call_entry PySem.F.slot_dict_eq h1.typeIs PySem.F.entry_dict_eq ?_ (PySem.F.args_dict_eq_2 _ _)) hu0
   refine (?_:wpAny _ _ (Builtin.Dict.dictSlotArgs "__eq__" ⟨[.ref a,.ref b],[]⟩ >>= _) _ _ s)
   refine aa ?_
   unfold Builtin.Dict.dictSlotArgs
   refine aa (wpAny_notOrdered_dict h1.typeIs ?_)
   refine (?_:wpAny _ _ (pure (Value.ref a,Value.ref b)) _ _ s)
   refine ab ?_
   refine aa (wpAny_isInstance (T:="dict") g1.typeIs PySem.F.sub_dict_dict ?_)
   simp -iota only [Bool.not_true,Bool.false_eq_true,if_false]
   refine aa (ab (aa (ab ?_)))
   have e1:kv.length=k.length:=by have:=congrArg List.length h2; simpa -iota using this
   have e2:ku.length=m.length:=by have:=congrArg List.length g2; simpa -iota using this
   refine aa (lE ka kb h1 g1 (by omega) (fun p hp=>?_) (ab ⟨_,rfl,(fun x=>nomatch x),hq⟩))
   ·obtain ⟨j,hj,e⟩:=List.mem_iff_getElem.mp hp
    have hjk:j<k.length:=by exact nT hj (aq e1)
    have e3:kv[j].1=k[j].1:=by
     have:=congrArg (fun l=>l[j]?) h2
     simpa -iota [hj,hjk] using this
    obtain ⟨y,q1,q2⟩:=ha k[j] (List.getElem_mem hjk)
    obtain ⟨f1,_⟩:=cA (k:=k[j].1) g2 g3
    obtain ⟨u',q3,q4⟩:=f1 _ q1
    obtain ⟨v',q5,q6⟩:=h3.get (i:=j) (d:=k[j].2) (by simp -iota [hjk])
    have e4:v'=kv[j].2:=by simpa -iota [hj] using q5.symm
    subst e4 e
    refine rP e3 ?_
    exact ⟨u',q3,ih q2 q6 q4 r hu1⟩
end
end
section
open PySem.SeqAt PySem.MeetsSeq PySem.MeetsSeq2 PySem.MeetsSeq3 PySem.SeqRoads2
open PySem.AutoSeq1 (wpAny_loadPart')
section
variable {c:Cst}{A:Around}{env:Env}{led:Led}{Z Z':HP}{s:Shared}{Q:D->Led->Prop}
theorem Cmp.neT {l m:List D} (n:Nat) (ha:All2 (Same n) l m) (hu:A.units+n+1<cLine) (h:Q (.bool false) led):Cmp c A .NotEq (.tup l) (.tup m) led Q:=fun Z s v u r x y=>x.tup' fun a vs na ea av=>y.tup' fun b us nb eb bv=>by
 obtain ⟨g1,g2⟩:=eE ha av bv
 refine wpAny_richCompare_same_room (op:=.NotEq) (bL (r.zin _ _ ea)).typeIs (bL (r.zin _ _ eb)).typeIs F.slot_tuple_ne
    (call_meetsIn F.slot_tuple_ne (bL (r.zin _ _ ea)).typeIs F.entry_tuple_ne (F.args_tuple_ne_2 _ _) (mK a b vs us na nb) ⟨r.zin _ _ ea,r.zin _ _ eb,g1,fun p hp=>?_,(fun x=>nomatch x),jc r h⟩) (by exact nT (aB (aD _ _)) (nL hu))
 obtain ⟨d1,d2,k1,k2,k3⟩:=g2 p hp
 exact Same.eqC n k1 k2 k3 r (by show A.units+1+n<cLine; lia)
noncomputable def TSame (d e:D):Prop:=∃ l m,d = .tup l/\e = .tup m/\All2 (fun x y=>lD x y=some true) l m
theorem TSame.at {d e:D}{v u:Value} (h:TSame d e) (r:R c Z led s) (hu:A.units<cLine) (x:AV c.w Z v d) (y:AV c.w Z u e):EqAt A s v u true:=by
 obtain ⟨l,m,rfl,rfl,ha⟩:=h
 refine x.tup' fun a vs na ea av=>y.tup' fun b us nb eb bv=>?_
 obtain ⟨g1,g2⟩:=eE ha av bv
 by_cases q:a=b
 ·subst q; exact .same _
 ·have:=RcAt.tuples (e:=fun u_=>true) (bL (r.zin _ _ ea)) (bL (r.zin _ _ eb)) hu (fun j h1 h2=>by
   obtain ⟨d1,d2,k1,k2,k3⟩:=g2 (vs.toArray[j],us.toArray[j]) (by
     rw [aE] at h1 h2
     refine rP (propext (List.mem_iff_getElem)) ?_
     exact ⟨j,by refine rP List.length_zip ?_; exact minL g1 (by assumption),by simp⟩)
   exact fA k1 k2 k3)
  rw [ic,aE,aE,g1,bq] at this
  exact .of_refs q this
theorem wpNeL {a b:Addr}{vs us:List Value}{n n2:Nat}{l m:List D} (r:R c Z led s) (ea:s.heap.get? a=some (ci vs n)) (eb:s.heap.get? b=some (ci us n2)) (av:AVs c.w Z vs l) (bv:AVs c.w Z us m)
  (ha:All2 TSame l m) (hu:A.units+1<cLine) (h:Q (.bool false) led):wpAny c.M A (compareOp .NotEq (.ref a) (.ref b)) (P1 c Z Q) noE s:=by
 obtain ⟨g1,g2⟩:=eE ha av bv
 have:=RcNeAt.lists (A:=A) (e:=fun u_=>true) (bx ea) (bx eb) (by exact rP aE (rP aE (rP g1 rfl))) (by exact nL hu) (fun j h1 h2=>by
    obtain ⟨d1,d2,k1,k2,k3⟩:=g2 (vs.toArray[j],us.toArray[j]) (by
     rw [aE] at h1 h2
     refine rP (propext (List.mem_iff_getElem)) ?_
     exact ⟨j,by refine rP List.length_zip ?_; exact minL g1 (by assumption),by simp⟩)
    exact k1.at (A:=A.in1) r (by show A.units+1<cLine; exact hu) k2 k3) c.prog c.w noE (P1 c Z Q)
 rw [ic] at this
 exact this (jc r h)
theorem Cmp.neL {l m:List D} (ha:All2 TSame l m) (hu:A.units+1<cLine) (h:Q (.bool false) led):Cmp c A .NotEq (.lst l) (.lst m) led Q:=fun Z s v u r x y=>x.lst' fun a vs na ea av=>y.lst' fun b us nb eb bv=>
 wpNeL r (r.zin _ _ ea) (r.zin _ _ eb) av bv ha hu h
theorem wpNe0 {a b:Addr}{vs:List Value}{n n2:Nat}{l:List D} (r:R c Z led s) (ea:s.heap.get? a=some (ci vs n)) (eb:s.heap.get? b=some (ci [] n2)) (av:AVs c.w Z vs l)
  (hu:A.units<cLine) (h:Q (.bool (!l.isEmpty)) led):wpAny c.M A (compareOp .NotEq (.ref a) (.ref b)) (P1 c Z Q) noE s:=by
 induction l using List.casesOn with
 | nil=>
  have av:=av.length
  have e:vs=[]:=List.eq_nil_of_length_eq_zero av
  subst e
  exact RcNeAt.lists (A:=A) (e:=fun u_=>true) (bx ea) (bx eb) rfl hu (fun j h1 h2=>absurd h1 (Nat.not_lt_zero _)) c.prog c.w noE (P1 c Z Q) (jc r h)
 | cons d l=>
  have av:=av.length
  exact RcNeAt.lists_lengths (A:=A) (bx ea) (bx eb) (by refine rP aE (rP av ?_); simp) hu c.prog c.w noE (P1 c Z Q) (jc r h)
theorem Cmp.ne0 {l:List D} (hu:A.units<cLine) (h:Q (.bool (!l.isEmpty)) led):Cmp c A .NotEq (.lst l) (.lst []) led Q:=fun Z s v u r x y=>x.lst' fun a vs na ea av=>y.lst' fun b us nb eb bv=>bv.nil' (L:=fun us=>Z b=some (ci us nb)->_) (fun eb=>wpNe0 r (r.zin _ _ ea) (r.zin _ _ eb) av hu h) eb
theorem Cmp.ne0M {l:List D}{a:Addr} (hm:At led a (.lst l)) (hu:A.units<cLine) (h:Q (.bool (!l.isEmpty)) led):Cmp c A .NotEq (.ref a) (.lst []) led Q:=fun Z s v u r x y=>x.val' <| y.lst' fun b us nb eb bv=>by
 obtain ⟨o,ho,hx⟩:=r.at_ hm
 induction hx using Ch.On.eLst with
 | lst av=>exact bv.nil' (L:=fun us=>Z b=some (ci us nb)->_) (fun eb=>wpNe0 r ho (r.zin _ _ eb) av hu h) eb
theorem mL {w:World}{vs:List Value}{ds:List D} (a:AVs w Z vs ds){j:Nat} (h:j<vs.toArray.size):∃ d,ds[j]? = some d/\AV w Z vs.toArray[j] d:=by
 rw [aE] at h
 have hd:j<ds.length:=by refine rQ a.length ?_; exact h
 obtain ⟨v,h1,h2⟩:=a.get (ao hd)
 refine ⟨_,ao hd,?_⟩
 have e:=getArr (vs:=vs) (j:=j) (by refine rP aE ?_; exact h)
 rw [h1] at e
 injection e with e
 refine rQ e ?_; exact h2
theorem Cmp.inT {ns:List Int}{i:Int} (h:Q (.bool (ns.any (· == i))) led):Cmp c A .In (.int i) (.tup (ns.map .int)) led Q:=fun Z s v u r x y=>x.int' fun t=>y.tup' fun a vs n e av=>by
 obtain ⟨xs,rfl,h2⟩:=av.ints
 refine in_tupleAt (fun v=>match v with | .int j _=>j == i | _=>false) (bL (r.zin _ _ e)) (fun y hy=>?_) ?_
 ·obtain ⟨p,hp,rfl⟩:=List.mem_map.mp (List.mem_toArray.mp hy)
  exact EqAt.int_int _ _ _ _
 ·have:((List.map (fun p=>Value.int p.fst p.snd) xs).toArray.any fun v=>match v with | .int j _=>j == i | _=>false)=ns.any (· == i):=by
   refine rQ h2 ?_; simp [List.any_map,Function.comp_def]
  refine rP this ?_; exact jc r h
theorem Cmp.inS {x y:Str} (h:Q (.bool (Txt.contains x y)) led):Cmp c A .In (.str y) (.str x) led Q:=.ss fun Z s t u r=>SB.contains (jc r h)
theorem AVs.pair {w:World}{ns ms:List Int}{vs us:List Value} (h:ns.length=ms.length) (a:AVs w Z vs (ns.map .int)) (b:AVs w Z us (ms.map .int)) :
  ∃ ps:List ((Int×Tok)×(Int×Tok)),vs=ps.map (fun p=>.int p.1.1 p.1.2)/\us=ps.map (fun p=>.int p.2.1 p.2.2)/\ps.map (fun p=>(p.1.1,p.2.1))=ns.zip ms:=by
 induction ns generalizing ms vs us with
 | nil=>
  induction ms using List.casesOn with
  | nil=>cases a; cases b; exact ⟨[],rfl,rfl,rfl⟩
  | cons=>exact zS h
 | cons n ns ih=>
  induction ms using List.casesOn with
  | nil=>exact sZ h
  | cons m ms=>
   rw [aA] at a b
   cases a with
   | cons x a=>
    cases b with
    | cons y b=>
     obtain ⟨ps,h1,h2,h3⟩:=ih (by simpa using h) a b
     exact x.int' fun t=>y.int' fun t'=>⟨((n,t),(m,t'))::ps,by refine rP h1 ?_; rfl,by refine rP h2 ?_; rfl,by refine rP aA (rP h3 ?_); rfl⟩
theorem Cmp.leT {ns ms:List Int} (hn:ns.length=ms.length) (hu:A.units<cLine) (h:Q (.bool (lex (fun a b=>decide (a<=b)) true (ns.zip ms))) led):Cmp c A .LtE (.tup (ns.map .int)) (.tup (ms.map .int)) led Q:=fun Z s v u r x y=>x.tup' fun a vs n e av=>y.tup' fun b us n2 e2 bv=>by
 obtain ⟨ps,rfl,rfl,h3⟩:=av.pair hn bv
 refine richCompare_meets_room (op:=.LtE) (bL (r.zin _ _ e)).typeIs (bL (r.zin _ _ e2)).typeIs F.slot_tuple_le F.entry_tuple_le (F.args_tuple_le_2 _ _) (ia a b ps n n2) ⟨r.zin _ _ e,r.zin _ _ e2,(fun x=>nomatch x),?_⟩ hu
 refine rP h3 ?_; exact jc r h
theorem Cmp.ltT {ns ms:List Int} (hn:ns.length=ms.length) (hu:A.units<cLine) (h:Q (.bool (lex (fun a b=>decide (a<b)) false (ns.zip ms))) led):Cmp c A .Lt (.tup (ns.map .int)) (.tup (ms.map .int)) led Q:=fun Z s v u r x y=>x.tup' fun a vs n e av=>y.tup' fun b us n2 e2 bv=>by
 obtain ⟨ps,rfl,rfl,h3⟩:=av.pair hn bv
 refine richCompare_meets_room (op:=.Lt) (bL (r.zin _ _ e)).typeIs (bL (r.zin _ _ e2)).typeIs F.slot_tuple_lt F.entry_tuple_lt (F.args_tuple_lt_2 _ _) (ib a b ps n n2) ⟨r.zin _ _ e,r.zin _ _ e2,(fun x=>nomatch x),?_⟩ hu
 refine rP h3 ?_; exact jc r h
theorem Cl.append {a:Addr}{ds:List D}{d:D}{led':Led} (u:Up led a (.lst ds) (.lst (ds++[d])) led') (hz:ds.length<=sizeLine) (h:Q .none led'):Cl c A (.val (.builtin "list.append")) [.ref a,d] led Q:=.of2 fun Z s v w r y z=>y.val' (hM r u hz z fun s' r'=>mk1 r' .none h)
theorem eraseO {vs:List Value}{n k:Nat} (hk:k<vs.length):∃ n',Obj.mapSeq (fun xs=>xs.eraseIdxIfInBounds k) (ci vs n)=ci (vs.eraseIdx k) n':=by
 refine ⟨?_,?_⟩
 rotate_left
 ·unfold Obj.mapSeq
  have e:vs.toArray.eraseIdxIfInBounds k=(vs.eraseIdx k).toArray:=by
   unfold Array.eraseIdxIfInBounds
   refine rP (dif_pos (by rw [aE]; exact hk)) ?_
   simp
  simp only [e]
  rfl
theorem Cl.pop0 {a:Addr}{d:D}{ds:List D}{led':Led} (u:Up led a (.lst (d::ds)) (.lst ds) led') (hz:ds.length<sizeLine) (h:Q d led'):Cl c A (.val (.builtin "list.pop")) [.ref a,.int 0] led Q:=.of2 fun Z s v w r y z=>y.val' <| z.int' fun t=>by
 obtain ⟨o,ho,hx⟩:=r.at_ u.at
 induction hx using Ch.On.eLst with
 | lst av=>
  refine av.cons' (L:=fun vs=>s.heap.get? a=some (ci vs _)->_) (fun v vs x y ho=>?_) ho
  have hsz:(v::vs).toArray.size<=sizeLine:=by refine rP aE (rP aJ (rP y.length ?_)); exact hz
  refine call_meets F.slot_list_pop ⟨_,ho,rfl⟩ F.entry_list_pop (F.args_list_pop_2 _ _) (list_pop_at a (v::vs).toArray _ 0 t 0 v rfl (by simp [seqIndex?]) (by simp) hsz) ⟨ho,?_⟩
  obtain ⟨n',e⟩:=eraseO (vs:=v::vs) (n:=_) (k:=0) (by simp)
  exact mk1 (r.turn (t:=s.toks) u (Heap.SameBut.update ..) (Heap.get?_update_self _ ho (by refine rP e ?_; rfl)) (by refine rP e ?_; exact .lst y)) x h
theorem jj (l:Addr) (vs:List Value) (n:Nat) (x:Value) (j:Nat) (hj:j<vs.length) (k:Nat) (hs1:vs.length<=sizeLine) :
  ∀ i:Nat,j - i=k->i<=j->MeetsIn c.prog c.w (Builtin.«list.remove.loop» ⟨[.ref l,x,rawInt i],[]⟩)
   (fun A R s=>s.heap.get? l=some (ci vs n)/\(∀ m (hm:m<vs.length),i<=m->m<=j->EqAt A.in1 s vs[m] x (decide (m=j)))/\R (.ok (.ret .none)) { s with heap:=s.heap.update l (Obj.mapSeq fun xs=>xs.eraseIdxIfInBounds j) }):=by
 induction k with
 | zero=>
  intro i hk hij A R s h
  obtain ⟨hp,g,d,tk,os⟩:=s; obtain ⟨hl,he,h⟩:=h
  have hij':i=j:=by omega
  subst hij'
  wp_walk using wpAny_loadPart' hl
  have hi:vs.toArray[((i:Nat):Int).toNat]? = some vs[i]:=by simp [hj]
  refine rP hi ?_
  refine aa (he i hj (aC _) (aC _) c.prog c.w _ _ ?_)
  refine rP (be rfl) ?_
  have hs2:vs.toArray.size<=sizeLine:=by refine rP aE ?_; exact hs1
  have hz':(vs.toArray.eraseIdxIfInBounds i).size<=sizeLine+1:=Nat.le_trans (size_erased vs.toArray _) (Nat.le_succ_of_le hs2)
  wp_walk using (wpAny_updateSeq hl rfl (hz:=hs2) (_hz':=hz')),wpAny_loadPart' hl
  simpa using h
 | succ k ih=>
  intro i hk hij A R s h
  obtain ⟨hp,g,d,tk,os⟩:=s; obtain ⟨hl,he,h⟩:=h
  have hlt:i<vs.length:=by omega
  wp_walk using wpAny_loadPart' hl
  have hi:vs.toArray[((i:Nat):Int).toNat]? = some vs[i]:=by simp [hlt]
  have hc:((i:Int)+1)=((i+1:Nat):Int):=by push_cast; rfl
  refine rP hi ?_
  refine aa (he i hlt (aC _) (by exact hij) c.prog c.w _ _ ?_)
  refine rP (bf (by omega)) ?_
  wp_walk
  refine rP hc ?_
  exact ⟨plainId_quiet plain_remove_loop _,codeAny_builtin entry_remove_loop (by
   refine rP (Around.under_plainId plain_remove_loop _) ?_
   exact ih (i+1) (by omega) (by exact subE' hk) A R _ ⟨hl,fun m hm h1 h2=>he m hm (by exact nL h1) h2,h⟩)⟩
theorem jl (l:Addr) (vs:List Value) (n:Nat) (x:Value) (j:Nat) (hj:j<vs.length) (hs1:vs.length<=sizeLine) :
  MeetsIn c.prog c.w (Builtin.«list.remove» ⟨[.ref l,x],[]⟩)
   (fun A R s=>s.heap.get? l=some (ci vs n)/\(∀ m (hm:m<vs.length),m<=j->EqAt A.in1 s vs[m] x (decide (m=j)))/\R (.ok (.ret .none)) { s with heap:=s.heap.update l (Obj.mapSeq fun xs=>xs.eraseIdxIfInBounds j) }):=by
 intro A R s h
 obtain ⟨hp,g,d,tk,os⟩:=s; obtain ⟨hl,he,h⟩:=h
 wp_walk using wpAny_loadPart' hl
 exact ⟨plainId_quiet plain_remove_loop _,codeAny_builtin entry_remove_loop (by
  refine rP (Around.under_plainId plain_remove_loop _) ?_
  exact jj l vs n x j hj _ hs1 0 rfl (aO _) A R _ ⟨hl,fun m hm u_ h2=>he m hm h2,h⟩)⟩
noncomputable def cG (l m:List D):Bool:=(l.zip m).all fun p=>lD p.1 p.2 == some true
noncomputable def Sc2 (l m:List D):Prop:=All2 (fun x y=>(lD x y).isSome=true) l m
theorem card_at {l m:List D}{v u:Value} (h:Sc2 l m) (r:R c Z led s) (hu:A.units<cLine) (x:AV c.w Z v (.tup l)) (y:AV c.w Z u (.tup m)) (hself:v=u->cG l m=true):EqAt A s v u (cG l m):=by
 refine x.tup' (P:=fun v=>(v=u->cG l m=true)->EqAt A s v u (cG l m)) (fun a vs na ea av=>y.tup' (P:=fun u=>(Value.ref a=u->cG l m=true)->EqAt A s (.ref a) u (cG l m)) fun b us nb eb bv hself=>?_) hself
 by_cases q:a=b
 ·subst q; refine rP (hself rfl) ?_; exact .same _
 ·have hn:l.length=m.length:=h.1
  have hs:vs.length=us.length:=by exact rP av.length (rP bv.length (rP hn rfl))
  have:=RcAt.tuples (e:=fun j=>(lD (l.getD j .none) (m.getD j .none)).getD false) (bL (r.zin _ _ ea)) (bL (r.zin _ _ eb)) hu (fun j h1 h2=>by
   obtain ⟨d1,g1,g2⟩:=mL av h1
   obtain ⟨d2,g3,g4⟩:=mL bv h2
   have k:=h.2 j _ _ g1 g3
   obtain ⟨b0,hb⟩:=Option.isSome_iff_exists.mp k
   refine rP aF (rP aF (rP g1 (rP g3 ?_)))
   simp only [Option.getD_some]
   refine rP hb ?_
   exact fA hb g2 g4)
  rw [aE,aE,hs,bq,Bool.and_true,Nat.min_self] at this
  have e:cG l m=(List.range us.length).all fun j=>(lD (l.getD j .none) (m.getD j .none)).getD false:=by
   unfold cG
   have hl:us.length=l.length:=by exact rP bv.length (rP hn rfl)
   refine rP hl (rP (propext (Bool.eq_iff_iff)) (rP (propext (List.all_eq_true)) (rP (propext (List.all_eq_true)) ?_)))
   constructor
   ·intro q j hj
    have hj1:j<l.length:=List.mem_range.mp hj
    have hj2:j<m.length:=by exact nT hj1 (aq hn)
    have:=q (l[j],m[j]) (by refine rP (propext (List.mem_iff_getElem)) ?_; exact ⟨j,by refine rP List.length_zip ?_; exact minL hn (by assumption),by simp⟩)
    simp only [aF,ao hj1,ao hj2,Option.getD_some]
    refine rP (eq_of_beq this) ?_; rfl
   ·intro q p hp
    obtain ⟨j,hj,e⟩:=List.mem_iff_getElem.mp hp
    rw [List.length_zip] at hj
    rw [List.getElem_zip] at e
    subst e
    have hj1:j<l.length:=by exact nT hj (Nat.min_le_left _ _)
    have hj2:j<m.length:=by exact nT hj1 (aq hn)
    have:=q j (List.mem_range.mpr hj1)
    simp only [aF,ao hj1,ao hj2,Option.getD_some] at this
    cases g:lD l[j] m[j] with
    | none=>rw [g] at this; exact fT this
    | some b=>rw [g] at this; simp at this; subst this; rfl
  refine rP e ?_
  exact .of_refs q this
theorem mM {w:World}{v:Value}{d e:D}{b:Bool} (h:lD d e=some b) (x:AV w Z v d) (y:AV w Z v e):b=true:=by
 revert x y
 refine kM (P:=fun d e b=>AV w Z v d->AV w Z v e->b=true) (fun i j x y=>?_) (fun i j x y=>?_) h
 ·exact x.inv (P:=fun v=>AV w Z v (.int j)->_) (fun t y=>y.inv (P:=fun v=>v = .int i t->_) (fun t e=>by cases e; exact bq _) rfl) y
 ·exact x.inv (P:=fun v=>AV w Z v (.str j)->_) (fun t y=>y.inv (P:=fun v=>v = .str i t->_) (fun t e=>by cases e; exact bq _) rfl) y
theorem mO {w:World}{v:Value}{l m:List D} (h:Sc2 l m) (x:AV w Z v (.tup l)) (y:AV w Z v (.tup m)):cG l m=true:=by
 induction x using AV.eTup with
 | tup e1 a=>
  cases y using AV.eTup with
  | tup e2 b=>
   rw [e1] at e2
   injection e2 with e2
   have e3:∀ {vs us:List Value}{n k:Nat},eY vs n=eY us k->vs=us:=fun h=>by
    injection h with _ _ h _
    injection h with h _
    have:=congrArg Array.toList h; simpa using this
   have e4:=e3 e2
   subst e4
   obtain ⟨g1,g2⟩:=eE h a b
   unfold cG
   refine rP (propext (List.all_eq_true)) ?_
   intro p hp
   obtain ⟨j,hj,e⟩:=List.mem_iff_getElem.mp hp
   rw [List.length_zip] at hj
   rw [List.getElem_zip] at e
   subst e
   have hl:j<l.length:=by exact nT hj (Nat.min_le_left _ _)
   have hm:j<m.length:=by exact nT hj (Nat.min_le_right _ _)
   obtain ⟨v,q1,q2⟩:=a.get (ao hl)
   obtain ⟨u,q3,q4⟩:=b.get (ao hm)
   rw [q1] at q3
   injection q3 with q3
   subst q3
   obtain ⟨b0,hb⟩:=Option.isSome_iff_exists.mp (h.2 j _ _ (ao hl) (ao hm))
   have:=mM hb q2 q4
   subst this
   simp only [hb,bq]
theorem Cl.remove {a:Addr}{ds:List D}{m:List D}{led':Led} (j:Nat) (hj:j<ds.length) (u:Up led a (.lst ds) (.lst (ds.eraseIdx j)) led') (hz:ds.length<=sizeLine) (hu:A.units+1<cLine)
  (hc:∀ i d,ds[i]? = some d->i<=j->∃ l,d = .tup l/\Sc2 l m/\cG l m=decide (i=j)) (h:Q .none led'):Cl c A (.val (.builtin "list.remove")) [.ref a,.tup m] led Q:=.of2 fun Z s v w r y z=>y.val' <| by
 obtain ⟨o,ho,hx⟩:=r.at_ u.at
 induction hx using Ch.On.eLst with
 | @lst vs n av=>
  have hjv:j<vs.length:=by refine rP av.length ?_; exact hj
  refine call_meetsIn F.slot_list_remove ⟨_,ho,rfl⟩ F.entry_list_remove (F.args_list_remove_2 _ _) (jl a vs n w j hjv (by refine rP av.length ?_; exact hz)) ⟨ho,fun i hi hij=>?_,?_⟩
  ·have hd:i<ds.length:=by refine rQ av.length ?_; exact hi
   obtain ⟨v,q1,q2⟩:=av.get (ao hd)
   rw [ao hi] at q1
   injection q1 with q1
   subst q1
   obtain ⟨l,e1,e2,e3⟩:=hc i _ (ao hd) hij
   rw [e1] at q2
   refine rQ e3 ?_
   exact card_at e2 r (by show A.units+1<cLine; exact hu) q2 z fun e=>by subst e; exact mO e2 q2 z
  ·obtain ⟨n',e⟩:=eraseO (vs:=vs) (n:=n) hjv
   exact mk1 (r.turn (t:=s.toks) u (Heap.SameBut.update ..) (Heap.get?_update_self _ ho (by refine rP e ?_; rfl)) (by refine rP e ?_; exact .lst (av.eraseIdx j))) .none h
end
end
section
section
variable {c:Cst}{A:Around}{env:Env}{led:Led}{Z Z':HP}{s:Shared}
theorem R.inK (ok:c.Ok) (r:R c Z led s):c.K.In s.heap:=fun a o e=>r.keepH _ _ (ok.k a o e)
theorem AEs.noRef {w:World}{es:List DictEntry}{kvs:List (Str×D)} (x:AEs w Z es kvs):es.any (·.refKey)=false:=AEs.ind x rfl fun u_ u_ u_ u_ u_ u_ u_ u_ ih=>ih
theorem AEs.find {w:World}{es:List DictEntry}{kvs:List (Str×D)} (x:AEs w Z es kvs) (k:Str) :
  (∀ d,cM kvs k=some d->∃ e,es.find? (·.key.isStr k)=some e/\AV w Z e.val d)/\(cM kvs k=none->es.find? (·.key.isStr k)=none):=by
 refine AEs.ind x ⟨(fun d h=>nS h),fun u_=>rfl⟩ ?_
 intro k1 t v d es kvs a r ih
 refine rP ji ?_
 by_cases q:k1=k
 ·exact rP (aY q) ⟨fun d' h=>⟨_,List.find?_cons_of_pos (p:=fun e:DictEntry=>e.key.isStr k) (beq_iff_eq.2 q),Option.some.inj h ▸ a⟩,fun h=>sN h⟩
 ·exact rP (aX q) (rP (List.find?_cons_of_neg (p:=fun e:DictEntry=>e.key.isStr k) (a:=⟨hashStr w k1,.str k1 t,v⟩) (fun h=>q (beq_iff_eq.1 h))) ih)
theorem AEs.getL {w:World}{es:List DictEntry}{kvs:List (Str×D)} (x:AEs w Z es kvs) (k:Str) :
  (∀ d,cM kvs k=some d->∃ v,getL k es=some (some v)/\AV w Z v d)/\(cM kvs k=none->PySem.W.getL k es=some none):=by
 unfold PySem.W.getL
 refine ⟨fun d h=>?_,fun h=>rP ((x.find k).2 h) (rP x.noRef rfl)⟩
 obtain ⟨e,h1,h2⟩:=(x.find k).1 d h
 exact ⟨_,rP h1 rfl,h2⟩
theorem any_key' {kvs:List (Str×D)}{k:Str}:kvs.any (fun p=>p.1 == k)=true↔k∈kvs.map (·.1):=
 List.any_eq_true.trans ⟨fun ⟨p,h,e⟩=>List.mem_map.2 ⟨p,h,eq_of_beq e⟩,fun h=>let ⟨p,h,e⟩:=List.mem_map.1 h; ⟨p,h,beq_iff_eq.2 e⟩⟩
theorem fb {kvs:List (Str×D)}{k:Str}{d:D} (h:k∈kvs.map (·.1)):fy kvs k d=kvs.map (fun p=>if p.1 == k then (p.1,d) else p):=aY (any_key'.2 h)
theorem ig {kvs:List (Str×D)}{k:Str}{d:D} (h:k ∉ kvs.map (·.1)):fy kvs k d=kvs++[(k,d)]:=aX fun q=>h (any_key'.1 q)
theorem dset_eq {kvs:List (Str×D)}{k:Str}{d d1:D} (h:k ∉ kvs.map (·.1)):fy ((k,d1)::kvs) k d=(k,d)::kvs:=by
 refine (fb (.head _)).trans ((congrArg (·::_) (aY (bq k))).trans (congrArg _ ?_))
 exact (aP fun p hp=>aX fun e=>h (List.mem_map.mpr ⟨p,hp,eq_of_beq e⟩)).trans (List.map_id _)
theorem dset_ne {kvs:List (Str×D)}{k k1:Str}{d d1:D} (q:¬ k1=k):fy ((k1,d1)::kvs) k d=(k1,d1)::fy kvs k d:=by
 by_cases h:k∈kvs.map (·.1)
 ·exact (fb (.tail _ h)).trans (rP (fb h) (congrArg (·::_) (aX fun e=>q (beq_iff_eq.1 e))))
 ·exact (ig fun h2=>(List.mem_cons.1 h2).elim (fun e=>q e.symm) h).trans (rP (ig h) rfl)
theorem AEs.putL {w:World}{es:List DictEntry}{kvs:List (Str×D)}{v:Value}{d:D} (x:AEs w Z es kvs) (hn:(kvs.map (·.1)).Nodup) (k:Str) (t:Tok) (av:AV w Z v d) :
  AEs w Z (PySem.W.putL k (hashStr w k) (.str k t) v es) (fy kvs k d):=by
 refine AEs.ind (P:=fun es kvs=>(kvs.map (·.1)).Nodup->AEs w Z (PySem.W.putL k (hashStr w k) (.str k t) v es) (fy kvs k d)) x (fun u_=>.cons av .nil) ?_ hn
 intro k1 t1 v1 d1 es kvs a r ih hn
 have hn:=List.nodup_cons.1 hn
 unfold PySem.W.putL
 by_cases q:k1=k
 ·refine rP (aY (beq_iff_eq.2 q)) ?_
  subst q
  exact rP (dset_eq hn.1) (.cons av r)
 ·exact rP (aX fun h=>q (beq_iff_eq.1 h)) (rP (dset_ne q) (.cons a (ih hn.2)))
theorem gH {kvs:List (Str×D)}{k:Str}{d:D} (hn:(kvs.map (·.1)).Nodup):((fy kvs k d).map (·.1)).Nodup:=by
 by_cases h:k∈kvs.map (·.1)
 ·refine rP (fb h) (rP aG ?_)
  refine rP (aP (g:=fun p=>p.1) fun p u_=>?_) hn
  refine (?_:(if (p.1 == k)=true then (p.1,d) else p).1=p.1)
  by_cases q:(p.1 == k)=true
  ·exact rP (aY q) rfl
  ·exact rP (aX q) rfl
 ·refine rP (ig h) (rP aI (List.nodup_append.2 ⟨hn,List.nodup_cons.2 ⟨fun q=>mN q,.nil⟩,fun a ha b hb e=>h ?_⟩))
  have hb:b=k:=List.mem_singleton.1 hb
  exact hb ▸ e ▸ ha
section
variable {C dx:Addr}{kvs:List (Str×D)}{x:Str}
theorem gI {a:Addr}{es:List DictEntry}{n:Nat} (h1:s.heap.get? a=some (instObj C dx)) (h2:s.heap.get? dx=some (eR es n)):InstAt s.heap a (instObj C dx) C (some (PySem.W.dictOf es n)):=⟨h1,rfl,rfl,h2⟩
noncomputable def D.handed:D->Bool
 | .val (.builtin i)=>(withoutEnding? i "#data").isNone
 | _=>true
theorem AV.handed {w:World}{v:Value}{d:D} (h:d.handed=true) (a:AV w Z v d):handedIn v=true:=by
 induction a using AV.casesOn with
 | @val v=>cases v <;> first | rfl | exact h
 | _=>rfl
theorem Gat.own {attr:Option Value}{d:D}{Q:D->Led->Prop} (ok:c.Ok) (hg:plainGet c.K C x=true) (hh:hasDictIn c.K C=true) (ha:findIn c.K (.ref C) x=some attr) (hn:noGet c.K attr=true)
  (hm:At led dx (.dic kvs)) (hd:cM kvs x=some d) (hv:d.handed=true) (h:Q d led):Gat c A (.obj (instObj C dx)) x led Q:=fun Z s v r a=>a.obj' fun ad e=>by
 obtain ⟨o,ho,hx⟩:=r.at_ hm
 induction hx using Ch.On.eDic with
 | dic ae n=>
  obtain ⟨u,h1,h2⟩:=(ae.getL x).1 d hd
  exact get_value (r.inK ok) (gI (r.zin _ _ e) ho) (plainGet_of hg).1 (findObj_own hh ha hn h1) (h2.handed hv) (mk1 (r.toks _) h2 h)
theorem Mth.inst {f:Addr}{Q:D->List D->Led->Prop} (ok:c.Ok) (hg:plainGet c.K C x=true) (hf:findIn c.K (.ref C) x=some (some (.ref f))) (ht:isFn c.K (.ref f)=true)
  (hm:At led dx (.dic kvs)) (hd:cM kvs x=none) (h:Q (.ref f) [.obj (instObj C dx)] led):Mth c A (.obj (instObj C dx)) x led Q:=fun Z s v pl r a=>a.obj' fun ad e=>by
 obtain ⟨o,ho,hx⟩:=r.at_ hm
 induction hx using Ch.On.eDic with
 | dic ae n=>
  refine method_fn (r.inK ok) (gI (r.zin _ _ e) ho) (plainGet_of hg).1 (plainGet_of hg).2 hf (beq_iff_eq.mp ht) ?_ ⟨Z,led,_,_,.rfl,r,.val,.cons (.obj e) .nil,h⟩
  refine (?_:(lookIn x (PySem.W.dictOf _ _)).map _=_)
  refine rP (lookIn_dict _ _ _) (rP ((ae.getL x).2 hd) ?_); rfl
theorem Mth.own {attr:Option Value}{d:D}{Q:D->List D->Led->Prop} (ok:c.Ok) (hg:plainGet c.K C x=true) (hh:hasDictIn c.K C=true) (ha:findIn c.K (.ref C) x=some attr) (hn:noGet c.K attr=true)
  (ht:attr.all (fun a=>(typeIn c.K a).any fun t=>t != .type "function" && t != .type "method_descriptor" && t != .type "wrapper_descriptor")=true)
  (hm:At led dx (.dic kvs)) (hd:cM kvs x=some d) (hv:d.handed=true) (h:Q d [] led):Mth c A (.obj (instObj C dx)) x led Q:=fun Z s v pl r a=>a.obj' fun ad e=>by
 obtain ⟨o,ho,hx⟩:=r.at_ hm
 induction hx using Ch.On.eDic with
 | dic ae n=>
  obtain ⟨u,h1,h2⟩:=(ae.getL x).1 d hd
  refine method_usual (r.inK ok) (gI (r.zin _ _ e) ho) (plainGet_of hg).1 (plainGet_of hg).2 ha ht ?_
  exact get_value (r.inK ok) (gI (r.zin _ _ e) ho) (plainGet_of hg).1 (findObj_own hh ha hn h1) (h2.handed hv) ⟨Z,led,_,_,.rfl,r.toks _,h2,.nil,h⟩
theorem lF {K:Frag}{od:Obj}{f:Addr} (hh:hasDictIn K C=true) (ha:findIn K (.ref C) x=some (some (.ref f))) (hg:specialIn K (.ref f) "__get__" = some (some (.builtin "function.__get__"))) (ht:takesIn K (.ref f)=some false)
  (hc:copiedNames.contains x=false) (hl:lookIn x od=some none):findObj K C (some od) x=some (.bind (.builtin "function.__get__") (.ref f)):=by
 obtain ⟨cd,hc',hd⟩:=any_some hh
 unfold findObj
 have ho:PySem.W.ownOf cd (some od) x=some none:=by unfold PySem.W.ownOf; refine rP (aY hd) ?_; exact hl
 refine rP hc' (rP ha ?_)
 refine (?_:(specialIn K (.ref f) "__get__").bind _=_)
 refine rP hg ?_
 refine (?_:(takesIn K (.ref f)).bind _=_)
 refine rP ht ?_
 refine (?_:(PySem.W.ownOf cd (some od) x).bind _=_)
 refine rP ho ?_
 exact aX fun e=>fT (hc.symm.trans (aL e))
theorem Gat.mth {f:Addr}{Q:D->Led->Prop} (ok:c.Ok) (hg:plainGet c.K C x=true) (hh:hasDictIn c.K C=true) (ha:findIn c.K (.ref C) x=some (some (.ref f))) (hgt:specialIn c.K (.ref f) "__get__" = some (some (.builtin "function.__get__")))
  (ht:takesIn c.K (.ref f)=some false) (hty:typeIn c.K (.ref f)=some (.type "function")) (hc:copiedNames.contains x=false) (hm:At led dx (.dic kvs)) (hd:cM kvs x=none)
  (h:Q (.bm f (.obj (instObj C dx))) led):Gat c A (.obj (instObj C dx)) x led Q:=fun Z s v r a=>a.obj' fun ad e=>by
 obtain ⟨o,ho,hx⟩:=r.at_ hm
 induction hx using Ch.On.eDic with
 | dic ae n=>
  refine get_bind (r.inK ok) (gI (r.zin _ _ e) ho) (plainGet_of hg).1 (lF hh ha hgt ht hc ((lookIn_dict _ _ _).trans ((ae.getL x).2 hd))) (plainGet_of hg).2 (wpAny_call (fn_get (s:={ s with toks:=s.toks+1 }) (show c.K.In s.heap from r.inK ok) hty ?_))
  obtain ⟨hz,r2⟩:=r.pushZ (o:=methodObj (.ref f) (.ref ad)) rfl
  exact wpAny_of_eq (handedOut_of rfl) ⟨_,led,_,hz,r2.toks _,.bm HP.sf (.obj (hz _ _ e)),h⟩
theorem Sat.inst {d:D}{led':Led}{Q:Led->Prop} (ok:c.Ok) (hs:findIn c.K (.ref C) "__setattr__" = some (some (.builtin "object.__setattr__"))) (hp:plainOver c.K C=true) (ht:takerIn c.K C x=some none) (hh:hasDictIn c.K C=true)
  (u:Up led dx (.dic kvs) (.dic (fy kvs x d)) led') (hz:kvs.length<=900) (h:Q led'):Sat c A (.obj (instObj C dx)) x d led Q:=fun Z s v w r a av=>a.obj' fun ad e=>by
 obtain ⟨o,ho,hx⟩:=r.at_ u.at
 induction hx using Ch.On.eDic with
 | @dic es n ae hn=>
  have I:=gI (r.zin _ _ e) ho
  refine set_plain (r.inK ok) I hs (osa_open (s:={ s with toks:=s.toks+1 }) (show c.K.In s.heap from r.inK ok) I hp ht fun b=>?_)
  obtain ⟨cd,hc,hd'⟩:=any_some hh
  have D1:=ho
  have hlen:es.length<=900:=by have:=ae.vals (prog:=c.prog); obtain ⟨kv,q1,q2,_⟩:=this; have q3:=q2.length; have q4:=congrArg List.length q1; simp at q4; exact nT (aq q3) (nT (aq q4) hz)
  have hput:=putName_dict x (PyData.keyHash c.w.params x) (.str x (s.toks+1)) w es n
  have hsz:(PySem.W.putL x (PyData.keyHash c.w.params x) (.str x (s.toks+1)) w es).length<=1000:=by
   have:∀ l:List DictEntry,(PySem.W.putL x (PyData.keyHash c.w.params x) (.str x (s.toks+1)) w l).length<=l.length+1:=fun l=>by
    induction l with
    | nil=>exact aC _
    | cons e r ih=>rw [PySem.W.putL]; split <;> simp <;> exact ih
   have:=this es; exact nT this (nD (aB hlen) rfl)
  refine aa (ab (aa (aa (wpAny_loadPart (r.zin _ _ e) (aa (looks_clsIn (r.inK ok) hc _ _ _ _ (fun u_ u_ e=>e) ?_))))))
  refine rP hd' ?_
  refine ab (a:=some dx) (aa (ab (aa ?_)))
  unfold nsSet
  refine aa (aa (wpAny_askSetting (ab (aa (wpAny_mkText (aa (wpAny_loadPart D1 ?_)))))))
  dsimp only
  have cc:(!es.toArray.any (·.key.isStr x) && es.toArray.any (·.refKey))=false:=by
   refine rQ Array.any_toList (rQ Array.any_toList ?_)
   have ref:=ae.noRef
   simp [ref]
  refine rP (aRefKeyMayBeTheName_at _ _) (rP cc ?_)
  have D2:=Heap.get?_update_self (Obj.putName x (PyData.keyHash c.w.params x) (.str x (s.toks+1)) w) D1 (by refine rP hput ?_; rfl)
  refine wpAny_updatePart D1 ?_
  refine aa (wpAny_lookBehind D2 (by refine rP hput ?_; exact pastItsLine_dict (by refine rP aE (rP ai ?_); exact nD hsz rfl)) ?_)
  refine ab (mkU ?_ h)
  exact r.turn (t:=s.toks+2) u (Heap.SameBut.update ..) (D2.trans (congrArg some hput)) (.dic (ae.putL hn x _ av) (gH hn))
end
end
end
section
section
variable {c:Cst}{A:Around}{env:Env}{led:Led}{Z Z':HP}{s:Shared}{Q:D->Led->Prop}
theorem Aok.underCall {n:Nat} (h:Aok A (n+2)) (args:Args):Aok (A.under (.builtin "type.__call__" args)) n:=by
 have w1:(Code.builtin "type.__call__" args).weight<=1:=by
  unfold Code.weight
  have e1:(Code.builtin "type.__call__" args).frames=0:=rfl
  have e2:(Code.builtin "type.__call__" args).isGuard=false:=by
   refine (?_:guardIds.contains "type.__call__" = false)
   decide +kernel
  have e3:(Code.builtin "type.__call__" args).isCaller=false:=rfl
  refine rP e1 (rP e2 (rP e3 ?_))
  simp only [Nat.zero_add,Bool.false_eq_true,if_false,Nat.add_zero]
  split <;> (first | exact aC _ | exact aO _)
 have u1:(Code.builtin "type.__call__" args).cUnits<=1:=aq rfl
 refine ⟨h.hh,?_,?_⟩
 ·have:=h.hd; show A.depth+_+n<=990; lia
 ·have:=h.hu; show A.units+_+10*n<=9800; lia
theorem Kpr.cls {C:Addr} (ok:c.Ok) (hk:keepIn c.K (.ref C)=true):Kpr c (.ref C) led:=fun Z s g r x=>x.val' (keeps_K (M:=c.M) hk s.heap (r.inK ok))
theorem Cc.cls {C fI:Addr}{ds:List D}{n:Nat} (ok:c.Ok) (hA:Aok A (n+2)) (hm:makesIn c.K C=true) (hi:findIn c.K (.ref C) "__init__" = some (some (.ref fI))) (hf:typeIn c.K (.ref fI)=some (.type "function"))
  (h:∀ dx A',Aok A' n->Cc c A' (.ref fI) (.obj (instObj C dx)::ds) ((dx,.dic [])::led) fun d led'=>d = .none/\Q (.obj (instObj C dx)) led'):Cc c A (.ref C) ds led Q:=fun Z s g vs r x av=>x.val' <| by
 obtain ⟨hh,gn,d,t,os⟩:=s
 have K:=r.inK ok
 refine make_core (makes_of K hm) (looks_findIn K hi) (fun self=>bind_fn K self hf) (.inl rfl) ?_
 have r1:=r.push (o:=emptyDict) (x:=.dic []) (.dic .nil .nil)
 obtain ⟨hz,r2⟩:=r1.pushZ (o:=instObj C hh.objs.size) rfl
 rw [show (({ heap:=hh,gens:=gn,drawn:=d,toks:=t,os:=os }:Shared).heap.push emptyDict).objs.size=hh.objs.size+1 from Heap.size_push ..] at hz r2
 refine codeAny_mono (h _ _ (hA.underCall _) _ _ (.ref fI) (.ref (hh.objs.size+1)::vs) r2 .val (.cons (.obj HP.sf) (av.mono hz))) fun r' s' q=>?_
 induction r' with
 | error e=>exact q
 | ok fl=>
  induction fl with
  | ret v=>
   obtain ⟨Z2,led2,d2,h2,r3,a3,e3,q⟩:=q
   subst e3
   exact ⟨a3.none' (P:=fun v=>v = .none) rfl,Z2,led2,_,hz.trans h2,r3,.obj (h2 _ _ HP.sf),q⟩
  | _=>exact q
theorem Cc.bm {f:Addr}{self:D}{ds:List D} (h:Cc c A (.ref f) (self::ds) led Q):Cc c A (.bm f self) ds led Q:=fun Z s g vs r x av=>x.bm' fun a u e b=>
 method_call (r.zin _ _ e) (h Z s (.ref f) (u::vs) r .val (.cons b av))
end
end
section
section
variable {c:Cst}{A:Around}{env:Env}{led:Led}{Z Z':HP}{s:Shared}{Q:D->Led->Prop}
noncomputable def TurnPost (Q:Fl->Led->Prop) (inv:Nat->Led->Prop) (n:Nat):Fl->Led->Prop:=fun f l=>match f with
 | .next | .cont=>LT n inv l
 | .brk=>Q .next l
 | .ret d=>Q (.ret d) l
inductive ForGk (c:Cst) (A:Around) (env:Env) (tgt:Expr) (body:List Stmt) (Q:Fl->Led->Prop) (itd:D) (led₂:Led):Prop
 | mk (I:Addr):itd = .ref I->(inv:Nat->Led->Prop)->(n:Nat)->inv n led₂->(∀ n led,inv n led->Stp c A (.ref I) tgt led (fun l=>Q .next l) fun d l=>Asg c A env tgt d l fun l₂=>Exs c A env body l₂ (TurnPost Q inv n))->ForGk c A env tgt body Q itd led₂
theorem Ex.forG {tgt iter:Expr}{body:List Stmt}{pos:Pos}{Q:Fl->Led->Prop} (hs:∀ x,foldedSetIterable iter env x=pure x)
  (h:Ev c A env iter led (kI c A (ForGk c A env tgt body Q))) :
  Ex c A env (.For tgt iter body [] pos) led Q:=fun Z s r=>by
 refine wpAny_For (bD (h Z s r) fun Z1 led₁ s₁ v d h1 r1 a1 q1=>bD (q1 Z1 s₁ v r1 a1) fun Z₂ led₂ s₂ itv itd h2 r2 a2 q2=>?_) hs
 obtain ⟨I,rfl,inv,n,i0,turn⟩:=q2
 refine a2.val' ?_
 refine codeAny_forLoop_any (fun n=>PU c Z (inv n) ()) (fun n s' hI=>?_) n ⟨Z₂,led₂,h1.trans h2,r2,i0⟩
 obtain ⟨Z',led3,hz,r',iv⟩:=hI
 refine ac (turn n led3 iv Z' s' r') (fun o s₁ x=>?_) noE.im
 induction o with
 | none=>
  obtain ⟨Z4,led4,h4,r4,q⟩:=x
  exact wpAny_execs_nil ⟨Z4,_,.next,hz.trans h4,r4,.next,q⟩
 | some v=>
  refine ac x (fun u_ s₂ x=>?_) noE.im
  obtain ⟨Z4,led4,d,h4,r4,a4,q4⟩:=x
  refine fq (q4 Z4 s₂ v r4 a4) fun Z5 led5 s₅ h5 r5 q5=>je (q5 Z5 s₅ r5) fun Z6 led6 s6 f g h6 r6 a6 q6=>?_
  have hz':Z.le Z6:=((hz.trans h4).trans h5).trans h6
  induction a6 with
  | next=>obtain ⟨m,hm,i⟩:=q6; exact ⟨m,hm,Z6,led6,hz',r6,i⟩
  | cont=>obtain ⟨m,hm,i⟩:=q6; exact ⟨m,hm,Z6,led6,hz',r6,i⟩
  | brk=>exact ⟨Z6,led6,.next,hz',r6,.next,q6⟩
  | ret a=>exact ⟨Z6,led6,_,hz',r6,.ret a,q6⟩
theorem dU:Slot "callable_iterator" "__iter__" "callable_iterator.__iter__":=
 .of (owner:="callable_iterator") (n:="__iter__") (by rw [typeLookup_type,builtinLookup_eq_fast]; kernel_rfl) (by decide +kernel) (by decide +kernel) (by decide +kernel)
  (by first | exact .inl (by decide +kernel) | exact .inr (by decide +kernel)) (by rw [isSubtype_type]; kernel_rfl)
theorem slot_cal_next:Slot "callable_iterator" "__next__" "callable_iterator.__next__":=
 .of (owner:="callable_iterator") (n:="__next__") (by rw [typeLookup_type,builtinLookup_eq_fast]; kernel_rfl) (by decide +kernel) (by decide +kernel) (by decide +kernel)
  (by first | exact .inl (by decide +kernel) | exact .inr (by decide +kernel)) (by rw [isSubtype_type]; kernel_rfl)
theorem gw:entryFor table "callable_iterator.__iter__" = some Builtin.«dict_keyiterator.__iter__»:=
 entryFor_alias (id':="dict_keyiterator.__iter__") (by kernel_rfl) rfl (by decide +kernel) (by kernel_rfl)
theorem gx:entryFor table "callable_iterator.__next__" = some Builtin.«callable_iterator.__next__»:=entryFor_of_tree (by kernel_rfl)
theorem il (a:Value):argsOk "callable_iterator.__iter__" ⟨[a],[]⟩:=by unfold argsOk; kernel_rfl
theorem im (a:Value):argsOk "callable_iterator.__next__" ⟨[a],[]⟩:=by unfold argsOk; kernel_rfl
theorem mP:builtinKind "iter" = none:=by decide +kernel
theorem lG:plainId "iter" = true:=by decide +kernel
theorem lH:entryFor table "iter" = some Builtin.«iter»:=entryFor_of_tree (by kernel_rfl)
theorem lI (a b:Value):argsOk "iter" ⟨[a,b],[]⟩:=by unfold argsOk; kernel_rfl
theorem gy:typeLookup (.type "method") "__call__" = pure (some (.builtin "method.__call__")):=by rw [typeLookup_type,builtinLookup_eq_fast]; kernel_rfl
theorem Cl.iter2 {f:Addr}{self:D} (h:∀ I,Q (.ref I) ((I,.cal (.bm f self))::led)):Cl c A (.val (.builtin "iter")) [.bm f self,.str ⟨#[]⟩] led Q:=.of2 fun Z s v u r y z=>y.bm' fun a w e b=>z.str' fun t=>by
 refine call_function_tree mP lG lH (lI _ _) ?_
 unfold Builtin.«iter»
 refine (?_:wpAny _ _ (pure [Value.ref a,Value.str ⟨#[]⟩ t] >>= _) _ _ _)
 refine aa (ab ?_)
 dsimp only
 refine aa (wpAny_specialOf ⟨_,r.zin _ _ e,rfl⟩ gy ?_)
 refine rP (aX (by simp -iota)) ?_
 refine aa (wpAny_rule (aa (bp ?_)))
 have r2:=r.push (o:=cw "callable_iterator" [.ref a,.str ⟨#[]⟩ t,.bool false]) (x:=.cal (.bm f self)) (.cal (.bm e b))
 exact ab (mk1 r2 .val (h _))
theorem At.take {l:Led}{a:Addr}{x:Ch} (h:At l a x):∃ l',Take l a x l':=h.rec ⟨_,.h⟩ fun u_ ih=>ih.elim fun u_ e=>⟨_,.t e⟩
theorem lJ {f:Value}{pos:List Value}{Q:Value->Shared->Prop}{E:Value->Shared->Prop} (hc:codeAny c.M A (.call f ⟨pos,[]⟩) (fun r s'=>match r with | .ok (.ret v)=>Q v s' | .ok _=>False | .error e=>E e s') s) :
  wpAny c.M A (callBorrowed f pos) Q E s:=fun Γ p hΓ=>by
 unfold callBorrowed
 refine rP (Sem.wp_call _ _ _ _ _ _ _ _ _ _ _) ?_
 refine wpCode_mono (fun r s' h=>?_) (hc _ p rfl (hΓ.enter _ none p (by intro x; exact nS x)))
 induction r with
 | error e=>exact h
 | ok f=>cases f <;> first | exact h | exact h.elim
theorem Itr.cal {I:Addr}{f:D} (hm:At led I (.cal f)) (h:Q (.ref I) led):Itr c A (.ref I) led Q:=fun Z s v r a=>a.val' <| by
 obtain ⟨o,ho,hx⟩:=r.at_ hm
 induction hx using Ch.On.eCal with
 | cal av=>
  refine wpAny_pyIter_slot ⟨_,ho,rfl⟩ dU (wpAny_call_entry dU ⟨_,ho,rfl⟩ gw ?_ (il _))
  refine (?_:wpAny _ _ (ret (.ref I)) _ _ s)
  exact ab ⟨_,rfl,"callable_iterator",_,⟨_,ho,rfl⟩,slot_cal_next.lookup,mk1 r .val h⟩
theorem mQ {f:Addr}{self:Value}{q:Addr}{o:Obj}{fd:FuncData}{Q:Bool->Shared->Prop}{E:Value->Shared->Prop} (h1:s.heap.get? q=some (cw "method" [.ref f,self])) (h2:s.heap.get? f=some o) (h3:o.data = .func fd) (h:Q true s):wpAny c.M A (borrowsExactly (.ref q)) Q E s:=by
 unfold borrowsExactly
 refine aa (wpAny_load h1 ?_)
 dsimp only
 refine rP (aY (by decide)) ?_
 refine aa (wpAny_load h2 ?_)
 refine rP h3 ?_
 exact ab h
theorem sz0 (x:Str):(x == (⟨#[]⟩:Str))=false\/x=⟨#[]⟩:=by
 cases h:x == (⟨#[]⟩:Str) with
 | false=>exact .inl rfl
 | true=>exact .inr (eq_of_beq h)
theorem Stp.cal {I f:Addr}{self:D}{o:Obj}{fd:FuncData}{x:Str}{pos:Pos}{Qn:Led->Prop}{Qs:D->Led->Prop} (hh:A.handled=none) (hf:c.H0.get? f=some o) (hfd:o.data = .func fd) (hm:At led I (.cal (.bm f self)))
  (h:Cc c A.in1 (.bm f self) [] led fun d led'=>∃ y,d = .str y/\At led' I (.cal (.bm f self))/\if y=⟨#[]⟩ then ∃ led'',Take led' I (.cal (.bm f self)) led''/\Qn led'' else Qs (.str y) led') :
  Stp c A (.ref I) (.Name x pos) led Qn Qs:=fun Z s r=>by
 obtain ⟨oi,ho,hx⟩:=r.at_ hm
 induction hx using Ch.On.eCal with
 | @cal v t av=>
  refine av.bm' (P:=fun v=>s.heap.get? I=some (cw "callable_iterator" [v,.str ⟨#[]⟩ t,.bool false])->_) (fun q u eq sv ho=>?_) ho
  have av':AV c.w Z (.ref q) (.bm f self):=.bm eq sv
  unfold pyNext
  refine aa (wpAny_attempt (wpAny_callSpecial?_slot (name:=Str.ofString "__next__") ⟨_,ho,rfl⟩ slot_cal_next (wpAny_call_entry slot_cal_next ⟨_,ho,rfl⟩ gx ?_ (im _))))
  unfold Builtin.«callable_iterator.__next__»
  refine aa (wpAny_of_eq (show slotArgs "__next__" 0 ⟨[.ref I],[]⟩=pure (Value.ref I,[]) from rfl) ?_)
  refine aa (aU ho rfl (i:=2) (x:=.bool false) rfl ?_)
  refine rP (aX (by decide)) ?_
  refine aa (aU ho rfl (i:=0) (x:=.ref q) rfl ?_)
  refine aa (wpAny_attempt ?_)
  unfold callOutOfASlot
  refine aa (mQ (r.zin _ _ eq) (r.keepH _ _ hf) hfd ?_)
  refine rP (aY rfl) ?_
  refine lJ (codeAny_mono (h Z s (.ref q) [] r av' .nil) fun rr s₁ z=>?_)
  induction rr with
  | error e=>exact z.elim
  | ok fl=>
   induction fl with
   | ret v=>
    obtain ⟨Z1,led₁,d,h1,r1,a1,y,rfl,hm1,z⟩:=z
    obtain ⟨oi1,ho1,hx1⟩:=r1.at_ hm1
    refine a1.str' fun ty=>?_
    induction hx1 using Ch.On.eCal with
    | @cal v1 t1 av1=>
     refine av1.bm' (P:=fun v1=>s₁.heap.get? I=some (cw "callable_iterator" [v1,.str ⟨#[]⟩ t1,.bool false])->_) (fun q1 u1 eq1 sv1 ho1=>?_) ho1
     refine (?_:wpAny _ _ (field (.ref I) 2 >>= _) _ _ _)
     refine aa (aU ho1 rfl (i:=2) (x:=.bool false) rfl ?_)
     refine rP (aX (by decide)) ?_
     refine aa (aU ho1 rfl (i:=1) (x:=.str ⟨#[]⟩ t1) rfl (aa (aV (PySem.SeqAt.EqAt.str_str (A:=A.in1) _ _ _ _ c.prog c.w _ _ ?_))))
     rcases sz0 y with hy | rfl
     ·have hy':((⟨#[]⟩:Str) == y)=false:=by rw [beq_eq_false_iff_ne] at hy ⊢; exact Ne.symm hy
      refine rP hy' (rP (aY (by decide)) ?_)
      rw [aX (by intro e; rw [e] at hy; simp -iota at hy)] at z
      exact ab ⟨_,rfl,ab (ab ⟨Z1,led₁,_,h1,r1,.str,z⟩)⟩
     ·refine rP (bq _) (rP (aX (by decide)) ?_)
      rw [aY rfl] at z
      refine aa (wpAny_rule (aa ?_))
      refine (?_:wpAny _ _ (field (.ref I) 0 >>= _) _ _ _)
      refine aa (aU ho1 rfl (i:=0) (x:=.ref q1) rfl (aa ?_))
      unfold slotLetsGo
      refine aa (mQ (r1.zin _ _ eq1) (r1.keepH _ _ hf) hfd ?_)
      refine rP (aY rfl) ?_
      refine ab ?_
      refine aa (wpAny_setField_rec ho1 (by simp -iota) fun h1' g1 s1=>aa (wpAny_setField_rec g1 (by simp -iota) fun h2' g2 s2=>wpAny_setField_rec g2 (by simp -iota) fun h3' g3 s3=>?_))
      have ext:Heap.ExtBut I s₁.heap h3':=fun b o hb e=>s3.extBut b o hb (s2.extBut b o hb (s1.extBut b o hb e))
      refine (?_:wpAny _ _ (newExc (.type "StopIteration") [] >>= _) _ _ _)
      refine aa ?_
      simp -iota only [newExc,newTuple]
      refine aa (bp ?_ (by size_fits))
      refine aa (m:=firstArgMember _ _) (wpAny_of_eq (a:=Value.none) (by first | rfl | (simp -iota only [firstArgMember]; rfl)) ?_)
      refine bp ?_ (by size_fits)
      simp -iota only [raiseNew]
      refine aa (wpAny_handled ?_)
      refine rP (show A.in1.handled=none from hh) ?_
      refine aa (ab (wpAny_throw ?_))
      refine aa (wpAny_isInstance (T:="StopIteration") (b:=true) ⟨_,bj _ rfl,rfl⟩ isSubtype_stop ?_)
      obtain ⟨led₂,tk,zq⟩:=z
      exact ab ⟨Z1,led₂,h1,r1.lose (t:=s₁.toks) tk ((ext.push _).push _),zq⟩
   | _=>exact z
end
end
section
section
variable {c:Cst}{A:Around}{env:Env}{led:Led}{Z Z':HP}{s:Shared}
theorem Take.back {l l':Led}{a:Addr}{x:Ch} (h:Take l a x l'):Weak ((a,x)::l') l:=h.rec .rest fun u_ ih=>.take (.t .h) .rfl ih
theorem Take.away {l l':Led}{a:Addr}{x:Ch} (t:Take l a x l') (hn:(l.map (·.1)).Nodup):a ∉ l'.map (·.1):=fun q=>by
 obtain ⟨p,hp,e⟩:=List.mem_map.mp q
 exact t.ne hn p hp e
theorem jm {l c:Int}{v:Value}{t u:Tok}:∀ (ps:List Value),TriplesOk ps->TriplesOk (ps++[.int l t,.int c u,v]):=fun ps h=>by
 fun_induction TriplesOk ps with
 | case1=>trivial
 | case2 a b c d e r ih=>exact ih h
 | case3=>exact h.elim
structure FnIs (qual:Str) (params:Arguments) (body:List Stmt) (scope:Scope) (clos:List (Str×Addr)) (fd:FuncData):Prop where
 pr:fd.params=params
 bd:fd.body = .stmts body
 sc:fd.scope=scope
 cl:fd.closure=clos
 ql:fd.qualname=qual
 gl:fd.globals=mainGlobals
 bu:fd.builtins=builtinsNs
 df:fd.defaults = .none
theorem wpMakeFn {name qual:Str}{params:Arguments}{body:List Stmt}{scope:Scope}{pos:Pos}{firstLine:Nat}{clos:List (Str×Addr)}{cc P:Addr}{Q:D->Led->Prop} (ok:c.Ok) (hcl:closureFor scope env=pure clos) (hge0:env.globals=mainGlobals)
  (hcode:env.code = .ref cc) (C:CodeHd c.H0 cc P) (hgP:mainGlobals≠P) (hb:c.H0.BuiltinsAt c.mg P) (hm:At led P (.tab pos qual)) (r:R c Z led s)
  (h:∀ fd,FnIs qual params body scope clos fd->Q (.fnc fd) led):wpAny c.M A (makeFunction name qual params (.stmts body) scope env [] [] [] pos firstLine) (P1 c Z Q) noE s:=by
 obtain ⟨o,ho,hx⟩:=r.at_ hm
 have hb':s.heap.BuiltinsAt c.mg P:=let ⟨bm,o,a1,a2,a3,a4,a5,a6⟩:=hb; ⟨bm,o,a1,a2,a3,a4,r.keepH _ _ a5,a6⟩
 obtain ⟨led₀,tk0⟩:=hm.take
 induction hx using Ch.On.eTab with
 | @tab ps ht hf=>
  rcases hf with hf | ⟨c',oc,vs,t,hf,hz,hd,hq⟩
  ·refine makeFunction_K hcl hge0 (ok.g.keeps r.keepH) hcode (C.keeps r.keepH) ho ht hf hgP hb' fun c' ctv doc h' tk hx hge hlt hrec hP=>?_
   obtain ⟨_,oc,vs,t,e1,e2,e3,e4⟩:=hrec
   cases e1
   have r1:=r.lose (t:=tk) tk0 hx
   have fr:s.heap.get? c'=none:=R.none_of_ge hge
   have nl:=fun q=>r.awayL fr ((tk0.sub.map _).subset q)
   obtain ⟨hz,r2⟩:=r1.addZ e2 (r.away fr) nl
   have r3:=r2.put (a:=P) (x:=.tab pos qual) hP (.tab (by
     refine rP Array.toList_append ?_; exact jm ps.toList ht) (.inr ⟨c',oc,vs,t,by refine rP Array.toList_append ?_; exact codeAmong_snoc ps.toList ht hf,HP.sf,e3,e4⟩))
    (by unfold HP.add; refine rP (aX fun q=>by rw [<- q,ho] at fr; exact sN fr) ?_; exact r.dis _ hm.mem) (tk0.away r.nod)
   have r4:=r3.weak tk0.back
   obtain ⟨hz2,r5⟩:=r4.pushZ (o:=fnMade name qual params body scope clos doc ((c.mg "__name__").getD .none) c' ctv) rfl
   exact ⟨_,led,_,hz.trans hz2,r5,.fnc HP.sf rfl rfl (hz2 _ _ HP.sf) e3 e4,h _ ⟨rfl,rfl,rfl,rfl,rfl,rfl,rfl,rfl⟩⟩
  ·refine makeFunction_hit hcl hge0 (ok.g.keeps r.keepH) hcode (C.keeps r.keepH) ho ht hf hb' fun ctv doc h' tk hk hsz=>?_
   have r1:=r.grow (h':=h') tk hk
   obtain ⟨hz2,r5⟩:=r1.pushZ (o:={ cls:=.type "function",data:=.func (fnX name qual params body scope clos .none .none doc ((c.mg "__name__").getD .none) none (.ref c') ctv) }) rfl
   exact ⟨_,led,_,hz2,r5,.fnc HP.sf rfl rfl (hz2 _ _ hz) hd hq,h _ ⟨rfl,rfl,rfl,rfl,rfl,rfl,rfl,rfl⟩⟩
theorem Ex.defn {name:Str}{params:Arguments}{body:List Stmt}{scope:Scope}{pos:Pos}{clos:List (Str×Addr)}{cc P:Addr}{Q:Fl->Led->Prop} (ok:c.Ok) (hd0:params.defaults=[]) (hk0:params.kw_defaults=[]) (ha:annTrees params none env=[])
  (hcl:closureFor scope env=pure clos) (hge0:env.globals=mainGlobals) (hcode:env.code = .ref cc) (C:CodeHd c.H0 cc P) (hgP:mainGlobals≠P) (hb:c.H0.BuiltinsAt c.mg P) (hm:At led P (.tab pos (qualnameIn env name name)))
  (h:∀ fd,FnIs (qualnameIn env name name) params body scope clos fd->Sto c A env name (.fnc fd) led fun l=>Q .next l):Ex c A env (.FunctionDef name params body [] none [] scope none name pos) led Q:=fun Z s r=>
 nestDef_K hd0 hk0 ha (bD (wpMakeFn (Q:=fun d l=>∃ fd,FnIs (qualnameIn env name name) params body scope clos fd/\d = .fnc fd/\l=led) ok hcl hge0 hcode C hgP hb hm r fun fd hfd=>⟨fd,hfd,rfl,rfl⟩) fun Z1 led₁ s₁ v d h1 r1 a1 ⟨fd,hfd,e1,e2⟩=>by
  subst e1 e2
  exact PUF h1 (h fd hfd Z1 s₁ v r1 a1))
theorem Kpr.fnc {fd:FuncData}:Kpr c (.fnc fd) led:=fun Z s g r x=>x.fnc' fun a cc o oc vs t h1 h2 u_ u_ u_ u_=>by
 refine ⟨.frame,.inl rfl,(Looks.ld (part:=none) (r.zin _ _ h1)).andThen ?_⟩
 refine rP h2 ?_; exact .now
theorem Cc.fnc {fd:FuncData}{body:List Stmt}{ds:List D}{m:List (Str×D)}{n:Nat}{Q:D->Led->Prop} (ok:c.Ok) (hA:Aok A (n+1)) (hbody:fd.body = .stmts body)
  (hbind:∀ Z s vs,R c Z led s->AVs c.w Z vs ds->∃ l,BindsTo s fd ⟨vs,[]⟩ l/\Binds c.w Z l m) (hco:fd.scope.isCoroutine=false) (hgen:fd.scope.isGenerator=false)
  (h:∀ a C,wCells (bG fd.scope.names) (.cell none) ((C,.ns [])::led) fd.closure fun led' cl'=>∀ A',Aok A' n->Bnd c A.in1 (dA fd a C cl') m led' fun led₁=>Exs c A' (dA fd a C cl') body led₁ (bS Q led)):Cc c A (.fnc fd) ds led Q:=fun Z s g vs r x av=>x.fnc' (P:=fun g=>codeAny c.M A (.call g ⟨vs,[]⟩) _ s) fun a cc o oc ws t h1 h2 h3 h4 h5 h6=>
 let ⟨l,hb,bs⟩:=hbind Z s vs r av
 codeFn ok hA r (r.zin _ _ h1) h2 ⟨cc,oc,ws,t,h3,r.zin _ _ h4,h5,h6⟩ hbody hb bs hco hgen (h a)
end
end
section
section
variable {c:Cst}{A:Around}{env:Env}{led led':Led}{Z Z':HP}{s:Shared}
theorem lK:∀ {m:List (Str×D)}{x:Str}{d:D},m.lookup x=some d->(x,d)∈m:=fun {m}=>by
 induction m with
 | nil=>intro x d h; exact nS h
 | cons p m ih=>
  intro x d h
  obtain ⟨y,e⟩:=p
  rw [aS] at h
  cases q:x == y with
  | true=>rw [q] at h; cases h; refine rP (eq_of_beq q) ?_; exact .head _
  | false=>rw [q] at h; exact .tail _ (ih h)
theorem Ch.Le.all {m m':List (Str×D)} (h:∀ p∈m',m.lookup p.1=some p.2):Ch.Le (.ns m) (.ns m'):=.ns fun x d e=>h _ (lK e)
theorem Exs.weak {st:List Stmt}{Q:Fl->Led->Prop} (w:Weak led led') (h:Exs c A env st led' Q):Exs c A env st led Q:=fun Z s r=>h Z s (r.weak w)
theorem Tst.weak {e:Expr}{Q:Bool->Led->Prop} (w:Weak led led') (h:Tst c A env e led' Q):Tst c A env e led Q:=fun Z s r=>h Z s (r.weak w)
inductive WhI {α:Type} (S:α->Led) (P:α->Prop) (μ:α->Nat) (x:α) (l:Led):Prop
 | mk (y:α):μ y<μ x->P y->Weak l (S y)->WhI S P μ x l
theorem Ex.whileW {α:Type}{test:Expr}{body:List Stmt}{pos:Pos}{Q:Fl->Led->Prop} (S:α->Led) (P:α->Prop) (μ:α->Nat) (x₀:α) (h0:Weak led (S x₀)) (p0:P x₀)
  (h:∀ x,P x->Tst c A env test (S x) fun b led₁=>if b=true then Exs c A env body led₁ (WhPost Q (WhI S P μ x)) else Q .next led₁):Ex c A env (.While test body [] pos) led Q:=
 Ex.while_ (fun n l=>∃ x,n=μ x/\P x/\Weak l (S x)) (μ x₀) ⟨x₀,rfl,p0,h0⟩ fun n l ⟨x,e,p,w⟩=>by
  subst e
  refine Tst.weak w fun Z s r=>fo (h x p Z s r) fun Z1 led₁ s₁ b h1 r1 q=>⟨Z1,led₁,h1,r1,?_⟩
  induction b with
  | false=>exact q
  | true=>
   refine fun Z s r=>je (q Z s r) fun Z₂ led₂ s₂ f g h2 r2 a2 q2=>⟨Z₂,led₂,g,h2,r2,a2,?_⟩
   induction g with
   | next=>obtain ⟨y,q1,q3,q4⟩:=q2; exact ⟨μ y,q1,y,rfl,q3,q4⟩
   | cont=>obtain ⟨y,q1,q3,q4⟩:=q2; exact ⟨μ y,q1,y,rfl,q3,q4⟩
   | brk=>exact q2
   | ret d=>exact q2
theorem Cl.sumV {kvs:List (Str×D)}{ns:List Int}{Q:D->Led->Prop} (hh:A.handled=none) (hv:kvs.map (·.2)=ns.map .int) (h:Q (.int ns.sum) led):Cl c A (.val (.builtin "sum")) [.vws kvs] led Q:=.of1 fun Z s v r y=>by
 induction y using AV.eVws with
 | @vws a d es n e1 e2 ae hn=>
  obtain ⟨kv,g1,g2,g3,g4⟩:=fu c.prog (r.zin _ _ e2) ae hn
  refine call_sum_walkG (wpAny_pyIter_values ⟨_,r.zin _ _ e1,rfl,rfl⟩ g1 ?_)
  have hd:d<s.heap.objs.size:=br (r.zin _ _ e2)
  refine ⟨_,_,_,_,_,_,fun i=>ns.getD i 0,rfl,Walks.dictValues (A:=A.in1) hh s.heap.objs.size d (Nat.ne_of_lt hd) kv n,⟨⟨_,bj _ rfl,rfl,rfl⟩,g1.push _⟩,fun b hb=>?_,fun i v ⟨k,hk⟩=>?_,fun h' tk t' hk=>?_⟩
  ·refine (?_:b<(s.heap.push _).objs.size)
   refine rP (Heap.size_push _ _) ?_
   rcases List.mem_cons.mp hb with rfl | hb
   ·exact Nat.lt_succ_self _
   ·rcases List.mem_cons.mp hb with rfl | hb
    ·exact Nat.lt_succ_of_lt hd
    ·exact mN hb
  ·have hi:i<kvs.length:=by
    refine rQ g2 ?_
    exact (List.getElem?_eq_some_iff.mp hk).1
   obtain ⟨v',q1,q2⟩:=g4 i kvs[i].1 kvs[i].2 (ao hi)
   rw [hk] at q1
   injection q1 with q1
   injection q1 with _ q1
   subst q1
   have e:kvs[i].2 = .int (ns.getD i 0):=by
    have:=congrArg (fun l=>l[i]?) hv
    simp only [aK,ao hi,Option.map_some] at this
    refine rP aF ?_
    cases q:ns[i]? with
    | none=>rw [q] at this; exact sN this
    | some j=>rw [q] at this; simpa using this
   rw [e] at q2
   cases q2 using AV.eInt
   exact ⟨_,rfl⟩
  ·have e:preSum (fun i=>ns.getD i 0) kv.length=ns.sum:=by
    have:∀ k,preSum (fun i=>ns.getD i 0) k=(ns.take k).sum:=fun k=>by
     induction k with
     | zero=>rfl
     | succ k ih=>
      refine (?_:preSum _ k+ns.getD k 0=_)
      refine rP ih (rP List.take_add_one (rP List.sum_append (rP aF ?_)))
      cases ns[k]? <;> simp
    rw [this,List.take_of_length_le]
    have:=congrArg List.length hv
    simp at this
    exact nT (aq this.symm) (aq g2.symm)
   refine rP e ?_
   refine mk1 (r.grow _ fun b o hb=>hk b o (fun hm=>?_) (aT _ hb)) .int h
   rcases List.mem_cons.mp hm with rfl | hm
   ·exact absurd (br hb) (Nat.lt_irrefl _)
   ·exact mN hm
end
end
section
noncomputable def dW (k:Nat):Stmt:=PySem.Challenge.pw_xh0016_01.main.body.getD k (.Pass ⟨0,0,0,0⟩)
noncomputable def fdOf {α:Type} (d:α) (f:Arguments->List Stmt->Scope->α) (s:Stmt):α:=
 if h:s.ctorIdx=0 then Stmt.FunctionDef.elim (motive_2:=fun u_=>α) s h (fun u_ p b u_ u_ u_ s u_ u_ u_=>f p b s) else d
noncomputable def cS (s:Stmt):List Stmt:=
 if h:s.ctorIdx=2 then Stmt.ClassDef.elim (motive_2:=fun u_=>List Stmt) s h (fun u_ u_ u_ b u_ u_ u_ u_ u_ u_ u_=>b)
 else fdOf [] (fun u_ b u_=>b) s
noncomputable def parsOf:Stmt->Arguments:=fdOf default fun p u_ u_=>p
noncomputable def scopeOf:Stmt->Scope:=fdOf default fun u_ u_ s=>s
structure Txt where
 body:List Stmt
 pars:Arguments
 scope:Scope
noncomputable def bX (s:Stmt):Txt:=⟨cS s,parsOf s,scopeOf s⟩
noncomputable def t06:{ t:Txt // t=bX (dW 6) }:=by
 refine ⟨?a,?h⟩
 case h=>conv=>rhs; reduce
noncomputable def t07:{ t:Txt // t=bX (dW 7) }:=by
 refine ⟨?a,?h⟩
 case h=>conv=>rhs; reduce
noncomputable def t12:{ t:Txt // t=bX (dW 12) }:=by
 refine ⟨?a,?h⟩
 case h=>conv=>rhs; reduce
noncomputable def t13:{ t:Txt // t=bX (dW 13) }:=by
 refine ⟨?a,?h⟩
 case h=>conv=>rhs; reduce
noncomputable def t14:{ t:Txt // t=bX (dW 14) }:=by
 refine ⟨?a,?h⟩
 case h=>conv=>rhs; reduce
noncomputable def t16:{ t:Txt // t=bX (dW 16) }:=by
 refine ⟨?a,?h⟩
 case h=>conv=>rhs; reduce
noncomputable def t17:{ t:Txt // t=bX (dW 17) }:=by
 refine ⟨?a,?h⟩
 case h=>conv=>rhs; reduce
noncomputable def t18:{ t:Txt // t=bX (dW 18) }:=by
 refine ⟨?a,?h⟩
 case h=>conv=>rhs; reduce
noncomputable def t19:{ t:Txt // t=bX (dW 19) }:=by
 refine ⟨?a,?h⟩
 case h=>conv=>rhs; reduce
noncomputable def t20:{ t:Txt // t=bX (dW 20) }:=by
 refine ⟨?a,?h⟩
 case h=>conv=>rhs; reduce
noncomputable def t21:{ t:Txt // t=bX (dW 21) }:=by
 refine ⟨?a,?h⟩
 case h=>conv=>rhs; reduce
noncomputable def t22:{ t:Txt // t=bX (dW 22) }:=by
 refine ⟨?a,?h⟩
 case h=>conv=>rhs; reduce
noncomputable def t23:{ t:Txt // t=bX (dW 23) }:=by
 refine ⟨?a,?h⟩
 case h=>conv=>rhs; reduce
noncomputable def t24:{ t:Txt // t=bX (dW 24) }:=by
 refine ⟨?a,?h⟩
 case h=>conv=>rhs; reduce
noncomputable def t25:{ t:Txt // t=bX (dW 25) }:=by
 refine ⟨?a,?h⟩
 case h=>conv=>rhs; reduce
noncomputable def t26:{ t:Txt // t=bX (dW 26) }:=by
 refine ⟨?a,?h⟩
 case h=>conv=>rhs; reduce
noncomputable def t27:{ t:Txt // t=bX (dW 27) }:=by
 refine ⟨?a,?h⟩
 case h=>conv=>rhs; reduce
noncomputable def t28:{ t:Txt // t=bX (dW 28) }:=by
 refine ⟨?a,?h⟩
 case h=>conv=>rhs; reduce
noncomputable def m3init:{ t:Txt // t=bX ((cS (dW 3)).getD 0 (.Pass ⟨0,0,0,0⟩)) }:=by
 refine ⟨?a,?h⟩
 case h=>conv=>rhs; reduce
noncomputable def m3push:{ t:Txt // t=bX ((cS (dW 3)).getD 1 (.Pass ⟨0,0,0,0⟩)) }:=by
 refine ⟨?a,?h⟩
 case h=>conv=>rhs; reduce
noncomputable def m3pop:{ t:Txt // t=bX ((cS (dW 3)).getD 3 (.Pass ⟨0,0,0,0⟩)) }:=by
 refine ⟨?a,?h⟩
 case h=>conv=>rhs; reduce
noncomputable def m3len:{ t:Txt // t=bX ((cS (dW 3)).getD 4 (.Pass ⟨0,0,0,0⟩)) }:=by
 refine ⟨?a,?h⟩
 case h=>conv=>rhs; reduce
noncomputable def m3count:{ t:Txt // t=bX ((cS (dW 3)).getD 8 (.Pass ⟨0,0,0,0⟩)) }:=by
 refine ⟨?a,?h⟩
 case h=>conv=>rhs; reduce
noncomputable def m9init:{ t:Txt // t=bX ((cS (dW 9)).getD 0 (.Pass ⟨0,0,0,0⟩)) }:=by
 refine ⟨?a,?h⟩
 case h=>conv=>rhs; reduce
noncomputable def m9read:{ t:Txt // t=bX ((cS (dW 9)).getD 1 (.Pass ⟨0,0,0,0⟩)) }:=by
 refine ⟨?a,?h⟩
 case h=>conv=>rhs; reduce
noncomputable def m9get:{ t:Txt // t=bX ((cS (dW 9)).getD 2 (.Pass ⟨0,0,0,0⟩)) }:=by
 refine ⟨?a,?h⟩
 case h=>conv=>rhs; reduce
noncomputable def m9push:{ t:Txt // t=bX ((cS (dW 9)).getD 3 (.Pass ⟨0,0,0,0⟩)) }:=by
 refine ⟨?a,?h⟩
 case h=>conv=>rhs; reduce
noncomputable def m11init:{ t:Txt // t=bX ((cS (dW 11)).getD 0 (.Pass ⟨0,0,0,0⟩)) }:=by
 refine ⟨?a,?h⟩
 case h=>conv=>rhs; reduce
noncomputable def m11cmp:{ t:Txt // t=bX ((cS (dW 11)).getD 1 (.Pass ⟨0,0,0,0⟩)) }:=by
 refine ⟨?a,?h⟩
 case h=>conv=>rhs; reduce
structure FnAt (c:Cst) (a:Addr) (t:Txt) (fd:FuncData):Prop where
 o:∃ o,c.H0.get? a=some o/\o.data = .func fd
 code:c.H0.CodeRec fd.code fd.qualname
 bd:fd.body = .stmts t.body
 pr:fd.params=t.pars
 sc:fd.scope=t.scope
 cl:fd.closure=[]
 gl:fd.globals=mainGlobals
 bu:fd.builtins=builtinsNs
 df:fd.defaults = .none
 kd:fd.kwdefaults = .none
structure Bui (c:Cst):Prop where
 sum':c.mg ⟨⟨[115,117,109]⟩⟩=none/\c.mb ⟨⟨[115,117,109]⟩⟩=some (.builtin "sum")
 len':c.mg ⟨⟨[108,101,110]⟩⟩=none/\c.mb ⟨⟨[108,101,110]⟩⟩=some (.builtin "len")
 range':c.mg ⟨⟨[114,97,110,103,101]⟩⟩=none/\c.mb ⟨⟨[114,97,110,103,101]⟩⟩=some (.type "range")
 min':c.mg ⟨⟨[109,105,110]⟩⟩=none/\c.mb ⟨⟨[109,105,110]⟩⟩=some (.builtin "min")
 max':c.mg ⟨⟨[109,97,120]⟩⟩=none/\c.mb ⟨⟨[109,97,120]⟩⟩=some (.builtin "max")
 iter':c.mg ⟨⟨[105,116,101,114]⟩⟩=none/\c.mb ⟨⟨[105,116,101,114]⟩⟩=some (.builtin "iter")
 list':c.mg ⟨⟨[108,105,115,116]⟩⟩=none/\c.mb ⟨⟨[108,105,115,116]⟩⟩=some (.type "list")
 zip':c.mg ⟨⟨[122,105,112]⟩⟩=none/\c.mb ⟨⟨[122,105,112]⟩⟩=some (.type "zip")
 isinstance':c.mg ⟨⟨[105,115,105,110,115,116,97,110,99,101]⟩⟩=none/\c.mb ⟨⟨[105,115,105,110,115,116,97,110,99,101]⟩⟩=some (.builtin "isinstance")
 tuple':c.mg ⟨⟨[116,117,112,108,101]⟩⟩=none/\c.mb ⟨⟨[116,117,112,108,101]⟩⟩=some (.type "tuple")
noncomputable abbrev fE (fd:FuncData) (t:Txt) (a C:Addr) (cl:List (Str×Addr)):Env:={ scope:=t.scope,locals:=C,globals:=mainGlobals,cells:=cl,qual:=fd.qualname++".<locals>.",func:=some a,code:=fd.code,frame:=some C,builtins:=builtinsNs }
section
variable {c:Cst}{A:Around}{led:Led}{Q:D->Led->Prop}
theorem FnAt.call {a:Addr}{t:Txt}{fd:FuncData}{ds:List D}{m:List (Str×D)}{n:Nat} (F:FnAt c a t fd) (ok:c.Ok) (hA:Aok A (n+1)) (hb:∀ Z s vs,R c Z led s->AVs c.w Z vs ds->∃ l,BindsTo s fd ⟨vs,[]⟩ l/\Binds c.w Z l m)
  (hco:t.scope.isCoroutine=false) (hgen:t.scope.isGenerator=false)
  (h:∀ C,wCells (bG t.scope.names) (.cell none) ((C,.ns [])::led) [] fun led' cl'=>∀ A',Aok A' n->Bnd c A.in1 (fE fd t a C cl') m led' fun led₁=>Exs c A' (fE fd t a C cl') t.body led₁ (bS Q led)):Cc c A (.ref a) ds led Q:=by
 obtain ⟨o,ho,hd⟩:=F.o
 refine Cc.fn ok hA ho hd F.code F.bd hb (by refine rP F.sc ?_; exact hco) (by refine rP F.sc ?_; exact hgen) ?_
 have e:∀ C cl',dA fd a C cl'=fE fd t a C cl':=fun C cl'=>by
  unfold dA fE
  exact rP F.sc (rP F.gl (rP F.bu rfl))
 refine rP F.sc (rP F.cl ?_)
 intro C
 refine wCells.imp (fun led' cl' k=>?_) (h C)
 refine rP (e _ _) ?_; exact k
noncomputable def gJ (p:Arguments) (vs:List Value) (l:List (Str×Value)):Prop:=∀ nm q b s g cl doc md an cd ct bu,bindArgs ⟨nm,q,p,b,s,g,cl,.none,.none,doc,md,an,cd,ct,bu⟩ ⟨vs,[]⟩=pure l
theorem FnAt.bindEq {a:Addr}{t:Txt}{fd:FuncData} (F:FnAt c a t fd){vs:List Value}{l:List (Str×Value)} (h:gJ t.pars vs l):bindArgs fd ⟨vs,[]⟩=pure l:=by
 have pr:=F.pr
 have df:=F.df
 have kd:=F.kd
 clear F
 cases fd
 simp only at pr df kd
 subst pr df kd
 exact h ..
theorem FnAt.bind1 {a:Addr}{t:Txt}{fd:FuncData} (F:FnAt c a t fd){x:Str}{d:D} (h:∀ v,gJ t.pars [v] [(x,v)]) (Z:HP) (s:Shared) (vs:List Value) (r:R c Z led s) (av:AVs c.w Z vs [d]) :
  ∃ l,BindsTo s fd ⟨vs,[]⟩ l/\Binds c.w Z l [(x,d)]:=av.one' fun v av=>⟨[(x,v)],.of_eq (F.bindEq (h v)),.cons av .nil⟩
theorem FnAt.bind2 {a:Addr}{t:Txt}{fd:FuncData} (F:FnAt c a t fd){x y:Str}{d e:D} (h:∀ v u,gJ t.pars [v,u] [(x,v),(y,u)]) (Z:HP) (s:Shared) (vs:List Value) (r:R c Z led s) (av:AVs c.w Z vs [d,e]) :
  ∃ l,BindsTo s fd ⟨vs,[]⟩ l/\Binds c.w Z l [(x,d),(y,e)]:=av.two' fun v u av au=>⟨[(x,v),(y,u)],.of_eq (F.bindEq (h v u)),.cons av (.cons au .nil)⟩
end
end
end Mine.Internal
end
section
open PySem PySem.W PySem.W.X PyProof.Rows
namespace Mine.Internal
section
noncomputable def viewOf (p:Program):Program:={ p with main:={ p.main with body:=[0,2,3,5,6,7,9,11,12,13,14,16,17,18,19,20,21,22,23,24,25,26,27,28].filterMap (p.main.body[·]?) } }
noncomputable def pc:{ p:Program // p=PySem.Challenge.pw_xh0016_01 }:=by
 refine ⟨?a,?h⟩
 case h=>conv=>rhs; reduce
noncomputable def vw:{ p:Program // p=viewOf pc.1 }:=by
 refine ⟨?a,?h⟩
 case h=>conv=>rhs; reduce
noncomputable abbrev FnV:=Arguments×FuncBody×Scope×List (PySem.Str×Addr)×Addr×Addr×Value×Value×Value
noncomputable def lkFn (s:Shared) (a:Nat):Option FnV:=match s.heap.get? a with
 | some o=>(match o.data with
  | .func fd=>some (fd.params,fd.body,fd.scope,fd.closure,fd.globals,fd.builtins,fd.defaults,fd.kwdefaults,fd.code)
  | _=>none)
 | none=>none
noncomputable def lkQ (s:Shared) (a c:Nat):Bool:=match s.heap.get? a with
 | some o=>(match o.data with
  | .func fd=>(match s.heap.get? c with
   | some oc=>(match oc.data with
    | .fields vs=>(match (vs[1]? : Option Value) with
     | some (.str q _)=>q == fd.qualname
     | _=>false)
    | _=>false)
   | none=>false)
  | _=>false)
 | none=>false
noncomputable def fnT (t:Txt) (c:Nat) (cl:List (PySem.Str×Addr)) (d:Value):Option FnV:=some (t.pars,.stmts t.body,t.scope,cl,3,0,d,.none,.ref c)
noncomputable abbrev dJ:PySem.Str:=⟨⟨[95,95,99,108,97,115,115,95,95]⟩⟩
noncomputable def plains:List (Txt×Nat):=[(t06.1,112),(t07.1,119),(m9init.1,133),(m9read.1,140),(m9get.1,147),(m9push.1,154),(m11init.1,175),(m11cmp.1,182),(t12.1,196),(t13.1,203),(t14.1,210),(t16.1,217),(t17.1,222),(t18.1,227),(t19.1,232),(t20.1,237),(t21.1,244),(t22.1,249),(t23.1,254),(t24.1,259),(t25.1,264),(t26.1,269),(t27.1,274),(t28.1,279),(m3push.1,45),(m3len.1,68)]
noncomputable def Yf1 (s:Shared):List (Option FnV)×Bool:=(lkFn s 38::lkFn s 61::lkFn s 98::plains.map fun p=>lkFn s p.2,lkQ s 38 37 && (lkQ s 61 60 && (lkQ s 98 97 && plains.all fun p=>lkQ s p.2 (p.2 - 1))))
noncomputable def Ya1:List (Option FnV)×Bool:=(fnT m3init.1 37 [(dJ,25)] (.ref 30)::fnT m3pop.1 60 [(dJ,25)] .none::fnT m3count.1 97 [(dJ,25)] .none::plains.map fun p=>fnT p.1 (p.2 - 1) [] .none,true)
end
end Mine.Internal
end
section
open PySem PySem.W PySem.F PyProof.Rows
namespace Mine.Internal
section
noncomputable def Frs (led:Led) (l:List Env):Prop:=∀ env∈l,env.scope.kind≠.module/\∃ L m,env.frame=some L/\At led L (.ns m)
theorem Frs.cons {led:Led}{env:Env}{l:List Env}{L:Addr}{m:List (Str×D)} (hk:env.scope.kind≠.module) (hf:env.frame=some L) (h:At led L (.ns m)) (t:Frs led l):Frs led (env::l):=fun e he=>by
 rcases List.mem_cons.mp he with q | q
 ·subst q; exact ⟨hk,L,m,hf,h⟩
 ·exact t e q
theorem Frs.nil {led:Led}:Frs led []:=fun e he=>by exact mN he
section
variable {c:Cst}{A:Around}{Z:HP}{led:Led}{s:Shared}{E:Value->Shared->Prop}
theorem R.but (r:R c Z led s){h':Heap}{t:Tok} (k:∀ b o,((Z b).isSome\/b∈led.map (·.1))->s.heap.get? b=some o->h'.get? b=some o):R c Z led { s with heap:=h',toks:=t } where
 base:=r.base
 zin:=fun a o e=>k a o (.inl (by refine rP e ?_; rfl)) (r.zin a o e)
 on:=fun p hp=>let ⟨o,e,x⟩:=r.on p hp; ⟨o,k _ _ (.inr (bc hp)) e,x⟩
 dis:=r.dis
 nod:=r.nod
 gens:=r.gens
 os:=r.os
theorem kP {a:Addr}{x y:Ch}:∀ {l:Led},(l.map (·.1)).Nodup->(a,x)∈l->(a,y)∈l->x=y
 | [],_,h,_=>by exact mN h
 | (b,z)::l,n,h1,h2=>by
  rw [aA,List.nodup_cons] at n
  rcases List.mem_cons.mp h1 with e1 | e1 <;> rcases List.mem_cons.mp h2 with e2 | e2
  ·cases e1; cases e2; rfl
  ·cases e1; exact absurd (bc (f:=(·.1)) e2) n.1
  ·cases e2; exact absurd (bc (f:=(·.1)) e1) n.1
  ·exact kP n.2 e1 e2
theorem R.slots (r:R c Z led s){S:List Addr}{h':Heap} (hs:Heap.SlotsOnly S s.heap h') (hS:∀ L∈S,∃ m,At led L (.ns m)):R c Z led { s with heap:=h' } where
 base:=r.base
 zin:=fun a o e=>(hs.2.1 a fun q=>by obtain ⟨m,h⟩:=hS a q; have:=r.dis _ h.mem; rw [this] at e; exact nS e).trans (r.zin a o e)
 on:=fun p hp=>by
  obtain ⟨o,e,x⟩:=r.on p hp
  by_cases q:p.1∈S
  ·obtain ⟨m,h⟩:=hS _ q
   obtain ⟨sl,e'⟩:=hs.2.2 _ _ e
   refine ⟨_,e',?_⟩
   have:=kP r.nod hp h.mem
   obtain ⟨a,ch⟩:=p
   cases this
   cases x using Ch.On.eNs with
   | ns d1 d2 d3 d4=>exact .ns (o:={ o with slots:=sl }) d1 d2 d3 d4
  ·exact ⟨o,(hs.2.1 _ q).trans e,x⟩
 dis:=r.dis
 nod:=r.nod
 gens:=r.gens
 os:=r.os
noncomputable abbrev h00:Heap:={ objs:=#[] }
theorem h00_get (a:Addr):h00.get? a=none:=Heap.get?_none_of_le (aO _)
theorem Frs.fun (r:R c Z led s):∀ {l:List Env},Frs led l->s.heap.FunFrames h00 l
 | [],_=>trivial
 | env::l,h=>by
  obtain ⟨hk,L,m,hf,ha⟩:=h env (.head _)
  obtain ⟨mv,⟨o,es,ep,ho,hd,_⟩,_⟩:=r.ns ha
  exact ⟨hk,⟨L,o,hf,h00_get L,ho,fun vs q=>by rw [hd] at q; cases q⟩,Frs.fun r fun e he=>h e (.tail _ he)⟩
theorem Frs.mem {l:List Env} (h:Frs led l){L:Addr} (hL:L∈l.filterMap (·.frame)):∃ m,At led L (.ns m):=by
 obtain ⟨env,he,hf⟩:=List.mem_filterMap.mp hL
 obtain ⟨_,L',m,hf',ha⟩:=h env he
 rw [hf] at hf'; cases hf'
 exact ⟨m,ha⟩
noncomputable def Off (Z:HP) (led:Led) (a:Addr):Prop:=Z a=none/\a ∉ led.map (·.1)
theorem Off.ne {a b:Addr} (h:Off Z led a) (k:(Z b).isSome\/b∈led.map (·.1)):b≠a:=fun e=>by
 subst e
 rcases k with q | q
 ·rw [h.1] at q; exact fT q
 ·exact h.2 q
inductive Exc0 (c:Cst) (Z:HP) (led:Led) (e:Addr) (s:Shared):Prop
 | mk:R c Z led s->Off Z led e->∀ (oe:Obj) (vs:Array Value),s.heap.get? e=some oe->oe.cls = .type "ValueError"->oe.data = .fields vs->vs[1]? = some .none->Exc0 c Z led e s
inductive Exc1 (c:Cst) (Z:HP) (led:Led) (e:Addr) (f:Value) (s:Shared):Prop
 | mk:R c Z led s->Off Z led e->∀ (oe:Obj) (vs:Array Value) (T:Addr) (oT:Obj) (ts:Array Value),s.heap.get? e=some oe->oe.cls = .type "ValueError"->oe.data = .fields vs->vs[1]? = some (.ref T)->T≠e->Off Z led T->s.heap.get? T=some oT->oT.data = .fields ts->ts[3]? = some f->Exc1 c Z led e f s
theorem Exc1.weak {e:Addr}{f:Value}{led':Led} (h:Exc1 c Z led e f s) (w:Weak led led'):Exc1 c Z led' e f s:=by
 obtain ⟨r,o1,oe,vs,T,oT,ts,h1,h2,h3,h4,h5,o2,h6,h7,h8⟩:=h
 exact ⟨r.weak w,⟨o1.1,fun q=>o1.2 (Take.mem_of_sub w _ q)⟩,oe,vs,T,oT,ts,h1,h2,h3,h4,h5,⟨o2.1,fun q=>o2.2 (Take.mem_of_sub w _ q)⟩,h6,h7,h8⟩
theorem jn {env:Env}{outer:List Env}{L e:Addr}{head:Value}{b:Bool}{oe:Obj}{vs:Array Value}{Q:Unit->Shared->Prop} (hfr:A.frames=some (env::outer)) (F:Frs led (env::outer)) (hf:env.frame=some L)
  (r:R c Z led s) (hO:Off Z led e) (he:s.heap.get? e=some oe) (hc:oe.cls = .type "ValueError") (hd:oe.data = .fields vs) (hsz:1<vs.size) (h:∀ s',Exc1 c Z led e (rawInt L) s'->Q () s') :
  wpAny c.M A (do let a <- frameOf env; let pl <- entryPlaceOf L b; let x <- EntryCells.newEntry head a .none (rawInt L) .none pl; setField (.ref e) 1 x) Q E s:=by
 have hS:e ∉ (env::outer).filterMap (·.frame):=fun q=>by
  obtain ⟨m,ha⟩:=F.mem q
  exact hO.2 (bc (f:=(·.1)) ha.mem)
 refine aa (wpAny_frameOf_fun hfr (F.fun r) hf fun h₁ hs₁=>?_)
 have r1:=r.slots hs₁ fun L hL=>F.mem hL
 refine aa (wpAny_entryPlaceOf fun pl hpl=>?_)
 unfold EntryCells.newEntry newFields
 refine aa (bp ?_ (hpl.sizeOk5 _ _ _ _ _))
 have he1:h₁.get? e=some oe:=(hs₁.2.1 e hS).trans he
 have he2:=aT (h:=h₁) { cls:=.type "traceback",dict:=none,data:=.fields ([head,.ref L,.none,rawInt L,.none]++(if pl.isEmpty then List.replicate 6 Value.none else pl)).toArray } he1
 have hTe:h₁.objs.size≠e:=Nat.ne_of_gt (br he1)
 refine wpAny_setField he2 hd hsz (h _ ?_)
 have hd3:=Obj.data_mapFields hd (·.setIfInBounds 1 (Value.ref h₁.objs.size))
 have hT:Off Z led h₁.objs.size:=⟨r1.fresh,r1.awayL (Heap.get?_none_of_le (aC _))⟩
 refine ⟨r1.but (t:=s.toks) fun a o ha e=>?_,hO,_,_,h₁.objs.size,_,_,Heap.get?_update_self _ he2 (Obj.isFreed_of_fields hd3),(Obj.cls_mapFields _ _).trans hc,hd3,by simp [hsz],hTe,hT,(Heap.get?_update_other _ _ (Ne.symm hTe)).trans (bj h₁ rfl),rfl,?_⟩
 ·refine rP (Heap.get?_update_other _ _ (Ne.symm (hO.ne ha))) ?_
  exact aT _ e
 ·simp
theorem note0 {env:Env}{outer:List Env}{L e:Addr}{Q:Unit->Shared->Prop} (hfr:A.frames=some (env::outer)) (F:Frs led (env::outer)) (hf:env.frame=some L) (x:Exc0 c Z led e s) (h:∀ s',Exc1 c Z led e (rawInt L) s'->Q () s') :
  wpAny c.M A (noteFrame (.ref e) env) Q E s:=by
 obtain ⟨r,hO,oe,vs,he,hc,hd,h1⟩:=x
 unfold noteFrame
 simp only [hf]
 refine aa (aU he hd h1 ?_)
 refine rP (aX (by decide)) ?_
 exact jn hfr F hf r hO he hc hd (Array.getElem?_eq_some_iff.mp h1).1 h
theorem noteIn {env:Env}{L e:Addr}{Q:Unit->Shared->Prop} (hf:env.frame=some L) (x:Exc1 c Z led e (rawInt L) s) (h:Q () s):wpAny c.M A (noteFrame (.ref e) env) Q E s:=by
 obtain ⟨r,hO,oe,vs,T,oT,ts,he,hc,hd,h1,hTe,hT,eT,hdT,h3⟩:=x
 exact wpAny_noteFrame_inFlight hf he hd h1 eT hdT h3 h
theorem jo {e:Addr}{f:Value}{fr:Option Addr}{Q:Unit->Shared->Prop} (x:Exc1 c Z led e f s) (h:∀ s',Exc1 c Z led e (fr.elim .none fun f=>rawInt f) s'->Q () s'):wpAny c.M A (setFlight (.ref e) fr) Q E s:=by
 obtain ⟨r,hO,oe,vs,T,oT,ts,he,hc,hd,h1,hTe,hT,eT,hdT,h3⟩:=x
 have hsz:=(Array.getElem?_eq_some_iff.mp h3).1
 unfold setFlight
 refine aa (aU he hd h1 ?_)
 refine rP (aY (show (Value.ref T != Value.none)=true from by simp)) ?_
 refine wpAny_setField eT hdT hsz (h _ ?_)
 have hd3:=Obj.data_mapFields hdT (·.setIfInBounds 3 (fr.elim .none fun f=>rawInt f))
 refine ⟨r.but (t:=s.toks) fun a o ha e=>by refine rP (Heap.get?_update_other _ _ (Ne.symm (hT.ne ha))) ?_; exact e,hO,oe,vs,T,_,_,by refine rP (Heap.get?_update_other _ _ hTe) ?_; exact he,hc,hd,h1,hTe,hT,Heap.get?_update_self _ eT (Obj.isFreed_of_fields hd3),hd3,by simp [hsz]⟩
theorem traced {e:Addr}{f:Value} (x:Exc1 c Z led e f s):∃ T,∀ Q:Value->Shared->Prop,Q (.ref T) s->wpAny c.M A (field (.ref e) 1) Q E s:=by
 obtain ⟨r,hO,oe,vs,T,oT,ts,he,hc,hd,h1,_,_,_,_,_⟩:=x
 exact ⟨T,fun Q h=>aU he hd h1 h⟩
theorem passes {α:Type}{e:Addr}{f:Value}{what:String}{env:Env}{Q:α->Shared->Prop} (x:Exc1 c Z led e f s) (h:∀ s',Exc1 c Z led e (env.frame.elim .none fun f=>rawInt f) s'->E (.ref e) s'):wpAny c.M A (PySem.passOn what (.ref e) env:Sem α) Q E s:=by
 obtain ⟨T,ht⟩:=traced (A:=A) (E:=E) x
 unfold PySem.passOn
 refine aa (ht _ ?_)
 refine rP (aX (by simp)) ?_
 exact aa (jo x fun s' x'=>wpAny_throw (h s' x'))
end
end
section
set_option tactic.hygienic true
noncomputable def dX (K:Frag) (C:Addr):Bool:=match K.lookup C with
 | some ⟨_,_,.cls cd,sl⟩=>!cd.abstract && !cd.hasDel && (sl.toList[4]?).join == some (.builtin "list.__new__") && !cd.mro.isEmpty && cd.mro.contains (.ref C) && cd.mro.contains (.type "list") &&
   specialIn K (.ref C) "__call__" == some (some (.builtin "type.__call__")) && instIn K (.ref C) (.type "type") == some true
 | _=>false
structure mR (M:Model) (h:Heap) (C:Addr):Prop where
 obj:∃ oc od cd sl,h.get? C=some ⟨oc,od,.cls cd,sl⟩/\cd.abstract=false/\cd.hasDel=false/\cd.mro.isEmpty=false
 made:Looks M h (Bind.madeBy (.ref C)) (some "list.__new__")
 base:Looks M h (Bind.staticBase (.ref C)) (.ref C)
 self:Looks M h (isSubtype (.ref C) (.ref C)) true
 top:Looks M h (isSubtype (.ref C) (.type "list")) true
 call:Looks M h (specialOf (.ref C) "__call__") (some (.builtin "type.__call__"))
 typ:Looks M h (isInstance (.ref C) (.type "type")) true
theorem mS {K:Frag}{M:Model}{h:Heap} (X:K.In h){C:Addr} (e:dX K C=true):mR M h C:=by
 unfold dX at e
 split at e
 ·rename_i oc od cd sl ho
  simp only [Bool.and_eq_true,Bool.not_eq_true',beq_iff_eq] at e
  obtain ⟨⟨⟨⟨⟨⟨⟨e1,e2⟩,e3⟩,e4⟩,e5⟩,e6⟩,e7⟩,e8⟩:=e
  have hc:clsIn K C=some cd:=by unfold clsIn; exact rP ho rfl
  have hm:Looks M h (mroOf (.ref C)) cd.mro:=(looks_clsIn X hc).andThen .now
  obtain ⟨c,l,hl⟩:∃ c l,cd.mro=c::l:=by cases q:cd.mro with | nil=>rw [q] at e4; cases e4 | cons c l=>exact ⟨c,l,rfl⟩
  have made:Looks M h (Bind.madeBy (.ref C)) (some "list.__new__"):=by
   intro A Q E s k q
   unfold Bind.madeBy
   refine aa (hm A _ E s k ?_)
   refine rP hl (rP (List.forIn_cons _ _ _ _) ?_)
   refine aa (aa (aa (aa (wpAny_loadPart (k _ _ (X _ _ ho)) (ab ?_)))))
   dsimp only
   refine rQ Array.getElem?_toList (rP e3 ?_)
   exact ab (ab (ab q))
  refine ⟨⟨oc,od,cd,sl,X _ _ ho,e1,e2,e4⟩,made,?_,looks_mroIn X ?_,looks_mroIn X ?_,looks_specialIn X e7,looks_instIn X e8⟩
  ·intro A Q E s k q
   unfold Bind.staticBase
   refine aa (hm A _ E s k ?_)
   refine rP hl (rP (List.forIn_cons _ _ _ _) ?_)
   exact aa (aa (aa (made A _ E s k (ab (ab (ab q))))))
  ·unfold mroIn; exact rP hc (rP (Option.bind_some _ _) (rP (aX (by rw [e4]; decide)) (rP e5 rfl)))
  ·unfold mroIn; exact rP hc (rP (Option.bind_some _ _) (rP (aX (by rw [e4]; decide)) (rP e6 rfl)))
 ·exact fT e
noncomputable abbrev bF (C dx:Addr) (vs:List Value) (n:Nat):Obj:={ cls:=.ref C,dict:=some dx,data:=.seq vs.toArray n }
theorem io:builtinKind "list.__new__" = some .builtinFn:=by decide +kernel
theorem gz:splitId "list.__new__" = some ("list","__new__"):=by decide +kernel
theorem ip (a:Value):argsOk "list.__new__" ⟨[a],[]⟩:=by unfold argsOk; kernel_rfl
section
variable {prog:Program}{w:World}{A:Around}{C:Addr}{R:Result->Shared->Prop}{h:Heap}{g:Array GenState}{d:Drawn}{t:Nat}{os:OsState}
theorem new_L (Y:mR (model prog w) h C)
  (hq:R (.ok (.ret (.ref (h.objs.size+1)))) ⟨(h.push emptyDict).push (bF C h.objs.size [] 0),g,d,t,os⟩) :
  codeAny (model prog w) A (.call (.builtin "list.__new__") ⟨[.ref C],[]⟩) R ⟨h,g,d,t,os⟩:=by
 obtain ⟨⟨oc,od,cd,sl,hC,e1,e2,e4⟩,made,base,self,top,call,typ⟩:=Y
 refine codeAny_call_builtin_code (plainId_quiet plain_list_new _) ?_
 have hk:(fun u_ s₁=>codeAny (model prog w) A (.builtin "list.__new__" ⟨[.ref C],[]⟩) R s₁:Unit->Shared->Prop) () ⟨h,g,d,t,os⟩:=by
  refine codeAny_builtin_stack entry_list_new rfl fun p st=>?_
  refine rP (Around.under_plainId plain_list_new _) ?_
  have hown:=owner_list_new
  refine (?_:wpAny _ _ (isType (.ref C) >>= _) _ _ _)
  refine rP hown ?_
  repeat (first | refine rP (aX (by decide)) ?_ | refine rP (aY (by decide)) ?_ | lk)
  refine nd_load (aT _ (aT _ hC)) (ab ?_)
  refine (?_:wpAny _ _ (pure cd.hasDel) _ _ _)
  refine rP e2 ?_
  refine ab (ab (ab ?_))
  refine (?_:R _ _)
  refine rP (Heap.size_push _ _) ?_
  exact hq
 unfold checkBuiltinCall
 refine rP io (rP gz ?_)
 have args:=ip (.ref C)
 unfold argsOk at args
 repeat (first | refine rP (aX (by decide)) ?_ | refine rP (aY (by decide)) ?_ | refine rP (bne_self_eq_false _) ?_ | lk)
 exact hk
theorem make_L {init:Value} (Y:mR (model prog w) h C) (hi:Looks (model prog w) h (typeLookup (.ref C) "__init__") (some init))
  (hb:∀ self,Looks (model prog w) h (bindSpecial init self) (init,[self]))
  (hq:codeAny (model prog w) (A.under (.builtin "type.__call__" ⟨[.ref C],[]⟩)) (.call init ⟨[.ref (h.objs.size+1)],[]⟩) (InitBack (h.objs.size+1) R) ⟨(h.push emptyDict).push (bF C h.objs.size [] 0),g,d,t,os⟩) :
  codeAny (model prog w) A (.call (.ref C) ⟨[],[]⟩) R ⟨h,g,d,t,os⟩:=by
 have Y':=Y
 obtain ⟨⟨oc,od,cd,sl,hC,e1,e2,e4⟩,made,base,self,top,call,typ⟩:=Y
 refine codeAny_of_tree ?_
 refine (?_:wpAny _ _ (callAny (.ref C) _) _ _ _)
 refine nd_load hC ?_
 refine (?_:wpAny _ _ (callAny.viaDunder (.ref C) _) _ _ _)
 unfold callAny.viaDunder
 refine aa (call.at ?_)
 dsimp only
 refine rP (tc_bind _) ?_
 refine aa (ab (aa (ab ?_)))
 refine ab (a:=Fin.again (.call (.builtin "type.__call__") ⟨[.ref C],[]⟩)) (And.intro rfl ?_)
 refine codeAny_call_builtin_at (Code.quiet_builtin _ (by decide +kernel)) entry_typeCall (check_slot tc_kind tc_split typ (tc_args _ _ _) ?_)
 unfold Builtin.«type.__call__»
 have hm:Looks (model prog w) h (mroOf (.ref C)) cd.mro:=((Looks.ld (part:=none) hC).andThen .now).andThen .now
 repeat (first | refine rP (aX (by rw [e4]; decide)) ?_ | with_reducible refine wpAny_call ?_ | lk)
 refine new_L Y' ?_
 have k:∀ b o,h.get? b=some o->((h.push emptyDict).push (bF C h.objs.size [] 0)).get? b=some o:=fun b o e=>aT _ (aT _ e)
 have hx:((h.push emptyDict).push (bF C h.objs.size [] 0)).get? (h.objs.size+1)=some (bF C h.objs.size [] 0):=by
  have:=bj (h:=h.push emptyDict) (o:=bF C h.objs.size [] 0) rfl
  rwa [Heap.size_push] at this
 have t1:Looks (model prog w) ((h.push emptyDict).push (bF C h.objs.size [] 0)) (typeOf (.ref (h.objs.size+1))) (.ref C):=(Looks.ld hx).andThen .now
 have s1:=self.keeps k
 have i1:=hi.keeps k
 have b1:=(hb (.ref (h.objs.size+1))).keeps k
 unfold isInstance callSpecial? specialOf
 repeat (first | with_reducible refine wpAny_call ?_ | lk)
 refine codeAny_mono hq fun r s' z=>?_
 rcases r with e | (v | _ | _ | _) <;> first | exact z | exact z.elim | skip
 obtain ⟨rfl,z⟩:=z
 exact ab (ab z)
end
end
section
theorem jU:Slot "method_descriptor" "__get__" "method_descriptor.__get__":=
 .of (owner:="method_descriptor") (n:="__get__") (by rw [typeLookup_type,builtinLookup_eq_fast]; kernel_rfl) (by decide +kernel) (by decide +kernel) (by decide +kernel)
  (by first | exact .inl (by decide +kernel) | exact .inr (by decide +kernel)) (by rw [isSubtype_type]; kernel_rfl)
theorem jp:entryFor table "method_descriptor.__get__" = some Builtin.«method_descriptor.__get__»:=entryFor_of_tree (by kernel_rfl)
theorem jV (a b c:Value):argsOk "method_descriptor.__get__" ⟨[a,b,c],[]⟩:=by unfold argsOk; kernel_rfl
theorem fB:Slot "wrapper_descriptor" "__get__" "wrapper_descriptor.__get__":=
 .of (owner:="wrapper_descriptor") (n:="__get__") (by rw [typeLookup_type,builtinLookup_eq_fast]; kernel_rfl) (by decide +kernel) (by decide +kernel) (by decide +kernel)
  (by first | exact .inl (by decide +kernel) | exact .inr (by decide +kernel)) (by rw [isSubtype_type]; kernel_rfl)
theorem eQ:entryFor table "wrapper_descriptor.__get__" = some Builtin.«wrapper_descriptor.__get__»:=entryFor_of_tree (by kernel_rfl)
theorem fD (a b c:Value):argsOk "wrapper_descriptor.__get__" ⟨[a,b,c],[]⟩:=by unfold argsOk; kernel_rfl
theorem own_pop:(kfb_private% "ownerAndName") "list.pop" = ("list","pop"):=by first | decide +kernel | kernel_rfl
theorem own_len:(kfb_private% "ownerAndName") "list.__len__" = ("list","__len__"):=by first | decide +kernel | kernel_rfl
theorem own_init:(kfb_private% "ownerAndName") "list.__init__" = ("list","__init__"):=by first | decide +kernel | kernel_rfl
theorem told_pop:Manifest.toldItsClass.contains "list.pop" = false:=by first | decide +kernel | kernel_rfl
theorem type_pop:typeOf (.builtin "list.pop")=pure (.type "method_descriptor"):=by show builtinType _=_; rw [builtinType_eq_fast]; kernel_rfl
theorem type_len:typeOf (.builtin "list.__len__")=pure (.type "wrapper_descriptor"):=by show builtinType _=_; rw [builtinType_eq_fast]; kernel_rfl
theorem mT:typeOf (.builtin "list.__init__")=pure (.type "wrapper_descriptor"):=by show builtinType _=_; rw [builtinType_eq_fast]; kernel_rfl
noncomputable abbrev bbO (T id:String) (x:Addr):Obj:=cw T [.builtin id,.ref x]
section
variable {prog:Program}{w:World}{M:Model}{A:Around}{E:Value->Shared->Prop}{s:Shared}
theorem run_bb {T id n:String}{x C:Addr}{ox:Obj}{P:Fin->Shared->Prop} (hx:s.heap.get? x=some ox) (hc:ox.cls = .ref C) (hs:Looks M s.heap (isSubtype (.ref C) (.type "list")) true)
  (ho:(kfb_private% "ownerAndName") id=("list",n)) (h:P (.done (.ret (.ref s.heap.objs.size))) { s with heap:=s.heap.push (bbO T id x) }) :
  wpAny M A ((kfb_private% "bindBuiltin") T (.builtin id) (some (.ref x))) P E s:=by
 obtain ⟨hh,g,d,t,os⟩:=s
 have t1:Looks M hh (typeOf (.ref x)) (.ref C):=hc ▸ (Looks.ld hx).andThen .now
 have i1:Looks M hh (isInstance (.ref x) (.type "list")) true:=t1.andThen hs
 refine (?_:wpAny _ _ ((kfb_private% "checkInstance") (.builtin id) (.ref x) >>= fun u_=>_) _ _ _)
 refine aa ?_
 refine (?_:wpAny _ _ ((kfb_private% "nameAndClass") (.builtin id) >>= fun p=>_) _ _ _)
 refine aa ?_
 refine (?_:wpAny _ _ (match (kfb_private% "ownerAndName") id with | (owner,name)=>pure ((name:PySem.Str),Value.type owner)) _ _ _)
 refine rP ho ?_
 refine ab (aa (i1.at ?_))
 refine ab ?_
 exact aa (bp (ab h))
theorem md_get {x C:Addr}{ox:Obj}{P:Fin->Shared->Prop} (hx:s.heap.get? x=some ox) (hc:ox.cls = .ref C) (hs:Looks M s.heap (isSubtype (.ref C) (.type "list")) true)
  (h:P (.done (.ret (.ref s.heap.objs.size))) { s with heap:=s.heap.push (bbO "builtin_function_or_method" "list.pop" x) }) :
  wpAny M A (Builtin.«method_descriptor.__get__» ⟨[.builtin "list.pop",.ref x,.ref C],[]⟩) P E s:=by
 unfold Builtin.«method_descriptor.__get__»
 refine aa (wpAny_of_eq (a:=(.builtin "list.pop",some (.ref x),some (.ref C))) (by first | rfl | kernel_rfl) ?_)
 refine rP told_pop ?_
 exact run_bb hx hc hs own_pop h
theorem wd_get {id n:String}{x C:Addr}{ox:Obj}{P:Fin->Shared->Prop} (hx:s.heap.get? x=some ox) (hc:ox.cls = .ref C) (hs:Looks M s.heap (isSubtype (.ref C) (.type "list")) true) (ho:(kfb_private% "ownerAndName") id=("list",n))
  (h:P (.done (.ret (.ref s.heap.objs.size))) { s with heap:=s.heap.push (bbO "method-wrapper" id x) }) :
  wpAny M A (Builtin.«wrapper_descriptor.__get__» ⟨[.builtin id,.ref x,.ref C],[]⟩) P E s:=by
 unfold Builtin.«wrapper_descriptor.__get__»
 refine aa (wpAny_of_eq (a:=(.builtin id,some (.ref x),some (.ref C))) (by first | rfl | kernel_rfl) ?_)
 exact run_bb hx hc hs ho h
end
structure BM (id T bt gid:String) (G:Builtin):Prop where
 ty:typeOf (.builtin id)=pure (.type T)
 sl:Slot T "__get__" gid
 en:entryFor table gid=some G
 ag:∀ a b c,argsOk gid ⟨[a,b,c],[]⟩
 run:∀ {M:Model}{A:Around}{E:Value->Shared->Prop}{s:Shared}{x C:Addr}{ox:Obj}{P:Fin->Shared->Prop},s.heap.get? x=some ox->ox.cls = .ref C->Looks M s.heap (isSubtype (.ref C) (.type "list")) true->
  P (.done (.ret (.ref s.heap.objs.size))) { s with heap:=s.heap.push (bbO bt id x) }->wpAny M A (G ⟨[.builtin id,.ref x,.ref C],[]⟩) P E s
theorem bmPop:BM "list.pop" "method_descriptor" "builtin_function_or_method" "method_descriptor.__get__" Builtin.«method_descriptor.__get__»:=⟨type_pop,jU,jp,jV,fun h1 h2 h3 h4=>md_get h1 h2 h3 h4⟩
theorem bmLen:BM "list.__len__" "wrapper_descriptor" "method-wrapper" "wrapper_descriptor.__get__" Builtin.«wrapper_descriptor.__get__»:=⟨type_len,fB,eQ,fD,fun h1 h2 h3 h4=>wd_get h1 h2 h3 own_len h4⟩
theorem bmInit:BM "list.__init__" "wrapper_descriptor" "method-wrapper" "wrapper_descriptor.__get__" Builtin.«wrapper_descriptor.__get__»:=⟨mT,fB,eQ,fD,fun h1 h2 h3 h4=>wd_get h1 h2 h3 own_init h4⟩
section
variable {prog:Program}{w:World}{M:Model}{A:Around}{E:Value->Shared->Prop}{h:Heap}{g:Array GenState}{d:Drawn}{t:Nat}{os:OsState}
theorem super_ga {id T bt gid:String}{G:Builtin} (B:BM id T bt gid G){so D x C:Addr}{ox:Obj}{l₀ l:List Value}{K:Frag}{name:PySem.Str}{tk:Tok}{Q:Fin->Shared->Prop}
  (hso:h.get? so=some { cls:=.type "super",dict:=none,data:=.fields #[.ref D,.ref x,.ref C],slots:=#[] }) (hno:Looks (model prog w) h (opaqueClassAbove (.ref C)) none)
  (hC:Looks (model prog w) h (mroOf (.ref C)) l₀) (hl:(l₀.dropWhile (· != .ref D)).drop 1=l) (X:K.In h)
  (hf:alongIn K name l=some (some (.builtin id))) (hx:h.get? x=some ox) (hxc:ox.cls = .ref C) (hs:Looks (model prog w) h (isSubtype (.ref C) (.type "list")) true) (hxC:x≠C) (hn:(name == ("__class__" : PySem.Str))=false)
  (hq:Q (.done (.ret (.ref h.objs.size))) ⟨h.push (bbO bt id x),g,d,t,os⟩) :
  wpAny (model prog w) A (Builtin.«super.__getattribute__» ⟨[.ref so,.str name tk],[]⟩) Q E ⟨h,g,d,t,os⟩:=by
 have hlk:=B.sl.lookup
 have hne:(Value.ref x == Value.ref C)=false:=by simp [hxC]
 have hdt:({ cls:=.type "super",dict:=none,data:=.fields #[.ref D,.ref x,.ref C],slots:=#[] }:Obj).data = .fields #[.ref D,.ref x,.ref C]:=rfl
 have f0:(#[.ref D,.ref x,.ref C]:Array Value)[0]? = some (.ref D):=rfl
 have f1:(#[.ref D,.ref x,.ref C]:Array Value)[1]? = some (.ref x):=rfl
 have f2:(#[.ref D,.ref x,.ref C]:Array Value)[2]? = some (.ref C):=rfl
 have ty:=B.ty
 have hTb:(⟨h,g,d,t,os⟩:Shared).TypeIs (.builtin id) T:=B.ty
 unfold Builtin.«super.__getattribute__»
 refine (?_:wpAny _ _ (asStr? (.str name tk) >>= _) _ _ _)
 refine aa (ab ?_)
 refine rP (aX Bool.false_ne_true) ?_
 refine (?_:wpAny _ _ (asStr? (.str name tk) >>= _) _ _ _)
 refine aa (ab ?_)
 refine (?_:wpAny _ _ (field (.ref so) 0 >>= _) _ _ _)
 refine aa (aU hso hdt f0 ?_)
 refine aa (aU hso hdt f1 ?_)
 refine aa (aU hso hdt f2 ?_)
 refine rP (aX fun e=>fT (hn.symm.trans e)) ?_
 refine aa (ks_wpAny_notOpaque hno ?_)
 refine rP (aX Bool.false_ne_true) ?_
 refine aa (Looks.at hC ?_)
 refine rP hl ?_
 refine aa (ks_forIn_along X (fun u_ u_=>rfl) rfl ?_ hf)
 refine aa (wpAny_of_eq ty ?_)
 refine aa (wpAny_of_eq hlk ?_)
 refine aa (aV ?_)
 refine rP hne ?_
 refine wpAny_call_entry B.sl hTb B.en (B.run hx hxc hs ⟨_,rfl,?_⟩) (B.ag _ _ _)
 exact aa (ab (ab (ab hq)))
theorem lL {id T bt gid:String}{G:Builtin} (B:BM id T bt gid G){so D x C:Addr}{ox:Obj}{l₀ l:List Value}{K:Frag}{name:PySem.Str}{pl:Sem Bool}{Q:Value×List Value->Shared->Prop}
  (hso:h.get? so=some { cls:=.type "super",dict:=none,data:=.fields #[.ref D,.ref x,.ref C],slots:=#[] }) (hno:Looks (model prog w) h (opaqueClassAbove (.ref C)) none)
  (hC:Looks (model prog w) h (mroOf (.ref C)) l₀) (hl:(l₀.dropWhile (· != .ref D)).drop 1=l) (X:K.In h)
  (hf:alongIn K name l=some (some (.builtin id))) (hx:h.get? x=some ox) (hxc:ox.cls = .ref C) (hs:Looks (model prog w) h (isSubtype (.ref C) (.type "list")) true) (hxC:x≠C) (hn:(name == ("__class__" : PySem.Str))=false)
  (hq:Q (.ref h.objs.size,[]) ⟨h.push (bbO bt id x),g,d,t+1,os⟩) :
  wpAny (model prog w) A (getMethod (.ref so) name pl) Q E ⟨h,g,d,t,os⟩:=by
 have hlk:=F.ks_slot_super_ga.lookup
 have hcan:=F.ks_canon_super_ga
 have hT:∀ t',(⟨h,g,d,t',os⟩:Shared).TypeIs (.ref so) "super":=fun u_=>⟨_,hso,rfl⟩
 unfold getMethod
 refine aa (wpAny_specialOf (hT _) hlk ?_)
 refine (?_:wpAny _ _ (if (Manifest.canonical "super.__getattribute__" != "object.__getattribute__")=true then _ else _) _ _ _)
 refine rP (aY hcan) ?_
 unfold getAttr getAttrBy
 refine aa (aa (wpAny_mkText (aV (aa (wpAny_typeOf (hT _) (aa (wpAny_of_eq hlk ?_)))))))
 refine (?_:wpAny _ _ (getAttrByItsOwn (.ref so) (.str name t) (.type "super") (.builtin "super.__getattribute__") true false) _ _ _)
 unfold getAttrByItsOwn hookBefore callGetattribute boundAndCalled
 refine aa (wpAny_of_eq (show (if onTheHeap (.type "super") then typeLookup (.type "super") "__getattr__" else pure none)=pure none from rfl) ?_)
 refine aa (wpAny_attempt (aV ?_))
 refine (?_:wpAny _ _ (bindSpecial (.builtin "super.__getattribute__") (.ref so) >>= _) _ _ _)
 refine aa (wpAny_of_eq (F.ks_slot_super_ga.bind _) ?_)
 refine ac (Q:=fun v s'=>v = .ref h.objs.size/\s'=⟨h.push (bbO bt id x),g,d,t+1,os⟩) (E:=fun u_ u_=>False)
  (wpAny_call_entry F.ks_slot_super_ga (hT _) F.ks_entry_super_ga (super_ga B hso hno hC hl X hf hx hxc hs hxC hn ⟨_,rfl,rfl,rfl⟩) (F.ks_gaArgs_super _ _)) (fun v s' hv=>?_) fun u_ u_ z=>z.elim
 obtain ⟨rfl,rfl⟩:=hv
 exact ab (ab hq)
end
end
section
theorem eS:entryFor table "list.__init__" = some Builtin.«list.__init__»:=entryFor_of_tree (by kernel_rfl)
theorem fF:entryFor table "list.__len__" = some Builtin.«list.__len__»:=entryFor_of_tree (by kernel_rfl)
theorem fH:entryFor table "list.pop" = some Builtin.«list.pop»:=entryFor_of_tree (by kernel_rfl)
theorem gA (a:Value):argsOk "list.__len__" ⟨[a],[]⟩:=by unfold argsOk; kernel_rfl
theorem fJ (a:Value):argsOk "list.__init__" ⟨[a],[]⟩:=by
 unfold argsOk; refine rP (signature?_of (id:="list.__init__") (n:=['_','_','t','i','n','i','_','_']) (o:=['t','s','i','l']) (by kernel_rfl) owner_list) ?_; kernel_rfl
theorem kind_len:builtinKind "list.__len__" = some .slot:=by decide +kernel
theorem mU:builtinKind "list.__init__" = some .slot:=by decide +kernel
theorem kind_pop:builtinKind "list.pop" = some .method:=by decide +kernel
noncomputable def mV:List Manifest.Param:=((Manifest.signature? "list.pop").map (·.params)).getD []
theorem sig_pop:Manifest.signature? "list.pop" = some ⟨.positional,"list.pop","pop",.self,mV⟩:=by kernel_rfl
theorem cnt_pop:Bind.checkCount "pop" mV 0=pure ():=by kernel_rfl
theorem chk_pop (a:Value) (full:String) (hf:(full != "*")=true):Bind.checkArgs "list.pop" ⟨.positional,full,"pop",.self,mV⟩ ⟨[a],[]⟩=pure ():=by
 unfold Bind.checkArgs Bind.printed
 simp -iota only [hf,show ("pop" != "*")=true by decide,if_true,pure_bind]
 have key:∀ H:Value->Sem Unit,(Bind.check ⟨.positional,full,"pop",.self,mV⟩ full "pop" 0 []).onRaise H=pure ():=fun H=>by
  refine (?_:(Bind.checkCount "pop" mV 0).onRaise _=_)
  refine rP cnt_pop ?_
  rfl
 exact key _
theorem gK:plainId "list.__len__" = true:=by decide +kernel
theorem fK:plainId "list.__init__" = true:=by decide +kernel
theorem gL:plainId "list.pop" = true:=by decide +kernel
section
variable {prog:Program}{w:World}{M:Model}{A:Around}{E:Value->Shared->Prop}{s:Shared}{a C dx:Addr}{vs:List Value}{n:Nat}
theorem run_len {Q:Fin->Shared->Prop} (ho:s.heap.get? a=some (bF C dx vs n)) (h:Q (.done (.ret (.int vs.length s.toks))) { s with toks:=s.toks+1 }) :
  wpAny (model prog w) A (Builtin.«list.__len__» ⟨[.ref a],[]⟩) Q E s:=by
 refine (?_:wpAny _ _ (do retInt (<- seqSize a)) _ _ s)
 unfold seqSize
 refine aa (aa (wpAny_loadPart ho ?_))
 refine ab (aa (wpAny_mkInt (ab ?_)))
 simpa -iota using h
theorem run_init {Q:Fin->Shared->Prop} (ho:s.heap.get? a=some (bF C dx [] n)) (h:Q (.done (.ret .none)) { s with heap:=s.heap.update a (Obj.mapSeq fun u_=>#[]) }) :
  wpAny (model prog w) A (Builtin.«list.__init__» ⟨[.ref a],[]⟩) Q E s:=by
 show wpAny _ _ (do
  let old <- Builtin.List.listItems (.ref a)
  Builtin.List.listUpdate (.ref a) fun u_=>#[]
  letGo old.toList.reverse
  ret .none) _ _ s
 refine aa (wpAny_listItems ho rfl (aa ?_))
 refine (?_:wpAny _ _ (updateSeq a fun u_=>#[]) _ _ _)
 refine wpAny_updateSeq ho rfl (aa (wpAny_letGo (ab h)))
theorem run_pop {v:Value}{Q:Fin->Shared->Prop} (hz:vs.length<sizeLine) (ho:s.heap.get? a=some (bF C dx (vs++[v]) n)) (h:Q (.done (.ret v)) { s with heap:=s.heap.update a (Obj.mapSeq (·.eraseIdxIfInBounds vs.length)) }) :
  wpAny (model prog w) A (Builtin.«list.pop» ⟨[.ref a],[]⟩) Q E s:=by
 unfold Builtin.«list.pop»
 refine aa (wpAny_of_eq (a:=(.ref a,[])) rfl ?_)
 refine aa (ab ?_)
 refine (?_:wpAny _ _ (if (!Builtin.List.listFitsIndex (-1))=true then _ else _) _ _ _)
 refine rP (aX (by decide)) ?_
 refine aa (wpAny_listItems ho rfl ?_)
 refine (?_:wpAny _ _ (if (vs++[v]).toArray.isEmpty=true then _ else _) _ _ _)
 refine rP (aX (by simp -iota)) ?_
 have e:((seqIndex? (-1) (vs++[v]).toArray.size).bind fun k=>(vs++[v]).toArray[k]?.map (k,·))=some (vs.length,v):=by
  refine rP (show seqIndex? (-1) (vs++[v]).toArray.size=some vs.length from seqIx (.inr ⟨by decide,by simp <;> lia,by simp <;> omega⟩)) ?_
  simp -iota
 show wpAny _ _ (match ((seqIndex? (-1) (vs++[v]).toArray.size).bind fun k=>(vs++[v]).toArray[k]?.map (k,·)) with
  | some (k,x)=>_
  | none=>_) _ _ _
 refine rP e ?_
 refine aa ?_
 refine (?_:wpAny _ _ (updateSeq a (·.eraseIdxIfInBounds vs.length)) _ _ _)
 refine wpAny_updateSeq ho rfl (ab h) (by simp <;> exact hz) ?_
 have e2:((vs++[v]).toArray.eraseIdxIfInBounds vs.length).size<=(vs++[v]).toArray.size:=by
  unfold Array.eraseIdxIfInBounds; split
  ·refine rP (Array.size_eraseIdx _ _) ?_; exact Nat.sub_le _ _
  ·exact aC _
 have:(vs++[v]).toArray.size=vs.length+1:=by simp -iota
 omega
end
section
variable {prog:Program}{w:World}{A:Around}{R:Result->Shared->Prop}{h:Heap}{g:Array GenState}{d:Drawn}{t:Nat}{os:OsState}{q x C:Addr}
theorem jq {id:String}{T:String} (hT:T = "method-wrapper") (hq:h.get? q=some (bbO T id x)) (hk:builtinKind id=some .slot) (ha:argsOk id ⟨[.ref x],[]⟩) (hqt:(Code.builtin id ⟨[.ref x],[]⟩).quiet=true)
  (hc:codeAny (model prog w) A (.builtin id ⟨[.ref x],[]⟩) R ⟨h,g,d,t,os⟩):codeAny (model prog w) A (.call (.ref q) ⟨[],[]⟩) R ⟨h,g,d,t,os⟩:=by
 subst hT
 refine codeAny_of_tree ?_
 refine (?_:wpAny _ A.in1 (callAny (.ref q) ⟨[],[]⟩) _ _ _)
 unfold callAny
 refine aa (wpAny_load hq ?_)
 refine (?_:wpAny _ _ (checkBoundCall id ⟨[.ref x],[]⟩ >>= fun u_=>again _) _ _ _)
 refine aa (wpAny_of_eq (a:=()) ?_ (ab ⟨hqt,hc⟩))
 unfold checkBoundCall
 unfold argsOk at ha
 cases hs:Manifest.signature? id with
 | none=>rfl
 | some sig=>
  rw [hs] at ha
  refine rP hk ?_
  exact ha
theorem call_pop {oc:Value}{od:Option Addr}{cd:ClassData}{sl:Array (Option Value)}{ox:Obj} (hq:h.get? q=some (bbO "builtin_function_or_method" "list.pop" x)) (hx:h.get? x=some ox) (hxc:ox.cls = .ref C) (hnc:∀ c,ox.data≠.cls c)
  (hC:h.get? C=some ⟨oc,od,.cls cd,sl⟩) (hoc:oc = .type "type") (hm:Looks (model prog w) h (isSubtype (.ref C) (.type "module")) false) (hqn:(toString cd.qualname.toString++toString "."++toString (Bind.lastOf "list.pop") != "*")=true)
  (hc:codeAny (model prog w) A (.builtin "list.pop" ⟨[.ref x],[]⟩) R ⟨h,g,d,t,os⟩):codeAny (model prog w) A (.call (.ref q) ⟨[],[]⟩) R ⟨h,g,d,t,os⟩:=by
 subst hoc
 refine codeAny_of_tree ?_
 refine (?_:wpAny _ A.in1 (callAny (.ref q) ⟨[],[]⟩) _ _ _)
 unfold callAny
 refine aa (wpAny_load hq ?_)
 refine (?_:wpAny _ _ (checkBoundCall "list.pop" ⟨[.ref x],[]⟩ >>= fun u_=>again _) _ _ _)
 refine aa ?_
 have fin:(fun (_:Unit) s₁=>wpAny (model prog w) A.in1 (again (.builtin "list.pop" ⟨[.ref x],[]⟩)) (fun fin s'=>match fin with | .done f=>R (.ok f) s' | .again c'=>c'.quiet=true/\codeAny (model prog w) A c' R s') (fun e s'=>R (.error e) s') s₁) () ⟨h,g,d,t,os⟩:=
  ab ⟨plainId_quiet gL _,hc⟩
 have t1:Looks (model prog w) h (typeOf (.ref x)) (.ref C):=hxc ▸ (Looks.ld hx).andThen .now
 have i1:Looks (model prog w) h (isInstance (.ref x) (.type "module")) false:=t1.andThen hm
 unfold checkBoundCall
 refine rP kind_pop (rP sig_pop ?_)
 refine (?_:wpAny _ _ (if (false:Bool)=true then _ else _) _ _ _)
 refine rP (aX (by decide)) ?_
 refine aa (i1.at ?_)
 refine rP (aX (by decide +kernel)) ?_
 refine aa (ks_wpAny_isType_inst hx hnc ?_)
 refine rP (aX (by decide)) ?_
 refine aa (t1.at ?_)
 refine (?_:wpAny _ _ (classData C >>= _) _ _ _)
 have c1:Looks (model prog w) h (classData C) cd:=(Looks.ld hC).andThen .now
 refine aa (c1.at ?_)
 have t2:Looks (model prog w) h (typeOf (.ref C)) (.type "type"):=(Looks.ld hC).andThen .now
 refine aa (t2.at ?_)
 refine rP (aY (by decide)) (rP (chk_pop _ _ hqn) ?_)
 exact ab fin
end
end
section
section
variable {c:Cst}{A:Around}{led:Led}{name:Str}{id:String}{Q:D->List D->Led->Prop}
theorem Mth.dic {kvs:List (Str×D)} (slot:Slot "dict" name id) (hty:typeOf (.builtin id)=pure (.type "method_descriptor")) (h:Q (.val (.builtin id)) [.dic kvs] led):Mth c A (.dic kvs) name led Q:=
 .bui plainAttrs_dict slot hty (fun Z s v r a=>a.dic' fun x es n e u_ u_ u_=>by
  have e:=r.zin _ _ e
  exact ⟨⟨_,e,rfl⟩,fun a h=>by cases h; exact ⟨_,e,rfl⟩⟩) h
theorem Mth.str {x:Str} (slot:Slot "str" name id) (hty:typeOf (.builtin id)=pure (.type "method_descriptor")) (h:Q (.val (.builtin id)) [.str x] led):Mth c A (.str x) name led Q:=
 .bui plainAttrs_str slot hty (fun Z s v r a=>a.str' fun t=>⟨rfl,fun a h=>by cases h⟩) h
theorem Mth.dicM {a:Addr}{kvs:List (Str×D)} (hm:At led a (.dic kvs)) (slot:Slot "dict" name id) (hty:typeOf (.builtin id)=pure (.type "method_descriptor")) (h:Q (.val (.builtin id)) [.ref a] led):Mth c A (.ref a) name led Q:=
 .bui plainAttrs_dict slot hty (fun Z s v r x=>x.val' <| by
  obtain ⟨o,ho,hx⟩:=r.at_ hm
  induction hx using Ch.On.eDic with
  | dic ae n=>exact ⟨⟨_,ho,rfl⟩,fun a h=>by cases h; exact ⟨_,ho,rfl⟩⟩) h
theorem Mth.lstM {a:Addr}{ds:List D} (hm:At led a (.lst ds)) (slot:Slot "list" name id) (hty:typeOf (.builtin id)=pure (.type "method_descriptor")) (h:Q (.val (.builtin id)) [.ref a] led):Mth c A (.ref a) name led Q:=
 .bui plainAttrs_list slot hty (fun Z s v r x=>x.val' <| by
  obtain ⟨o,ho,hx⟩:=r.at_ hm
  induction hx using Ch.On.eLst with
  | lst _=>exact ⟨⟨_,ho,rfl⟩,fun a h=>by cases h; exact ⟨_,ho,rfl⟩⟩) h
theorem Tru.bl {b:Bool}{Q:Bool->Led->Prop} (h:Q b led):Tru c A (.bool b) led Q:=fun u_ u_ u_ r x=>x.bool' (wpAny_truthy_bool (mkB r h))
theorem FnAt.kpr {a:Addr}{t:Txt}{fd:FuncData} (F:FnAt c a t fd):Kpr c (.ref a) led:=let ⟨_,h1,h2⟩:=F.o; .fn h1 h2
theorem Evs.mono {env:Env}{pos:Pos}{es:List Expr}{P P':List D->Led->Prop} (h:Evs c A env pos es led P) (k:∀ ds l,P ds l->P' ds l):Evs c A env pos es led P':=fun Z s r=>
 jd (h Z s r) fun Z1 led₁ s₁ vs ds h1 r1 a1 q=>⟨Z1,led₁,ds,h1,r1,a1,k _ _ q⟩
theorem FnAt.ev {a:Addr}{t:Txt}{fd:FuncData}{env:Env}{x:Str}{fpos pos:Pos}{args:List Expr}{Q:D->Led->Prop} (F:FnAt c a t fd) (ok:c.Ok) (hg:c.mg x=some (.ref a))
  (he:eval (.Call (.Name x fpos) args [] pos) env=(do callWith pos (<- eval (.Name x fpos) env) [] (backTo pos (starEach args env)) (backToKw pos (keywordEach [] env))))
  (hst:(backTo pos (starEach args env)).any (·.1)=false) (hk:env.scope.kind = .function) (hl:env.kindOf x=some .globalImplicit) (hgl:env.globals=mainGlobals) (hd:(x == ("__debug__" : Str))=false)
  (h:Evs c A env pos args led fun ds led₁=>Cc c A (.ref a) ds led₁ Q):Ev c A env (.Call (.Name x fpos) args [] pos) led Q:=
 Ev.ca he hst (Ev.glo ok hk hl hgl hg hd (Evs.mono h fun u_ u_ k=>⟨F.kpr,Cl.of k⟩))
noncomputable def Git (c:Cst) (A:Around) (a i:D) (led:Led) (Q:D->Led->Prop):Prop:=
 ∀ Z s v u,R c Z led s->AV c.w Z v a->AV c.w Z u i->wpAny c.M A (getItem v u) (P1 c Z Q) noE s
theorem Git.dicM {a:Addr}{kvs:List (Str×D)}{k:Str}{x:D}{Q:D->Led->Prop} (hm:At led a (.dic kvs)) (hx:cM kvs k=some x) (h:Q x led):Git c A (.ref a) (.str k) led Q:=fun Z s v u r y z=>y.val' <| z.str' fun t=>by
 obtain ⟨o,ho,hx'⟩:=r.at_ hm
 induction hx' using Ch.On.eDic with
 | dic ae hn=>exact wpGet r ho ae hn hx h
theorem Ex.augS {env:Env}{o e:Expr}{x:Str}{px tpos pos:Pos}{op:Operator}{Q:Fl->Led->Prop} (h:Ev c A env o led fun ob led₁=>Ev c A env (.Name x px) led₁ fun i led₂=>Git c A ob i led₂ fun a led3=>Ev c A env e led3 fun b led4=>Inp c A op a b led4 fun d led5=>Sit c A ob i d led5 fun l=>Q .next l) :
  Ex c A env (.AugAssign (.Subscript o (.Name x px) tpos) op e pos) led Q:=fun Z s r=>
 wpAny_AugAssign_Subscript (bD (h Z s r) fun Z1 led₁ s₁ ov ob h1 r1 a1 q=>bD (q Z1 s₁ r1) fun Z₂ led₂ s₂ iv i h2 r2 a2 q2=>bD (q2 Z₂ s₂ ov iv r2 (a1.mono h2) a2) fun Z3 led3 s₃ v a h3 r3 a3 q3=>
  bD (q3 Z3 s₃ r3) fun Z4 led4 s₄ u b h4 r4 a4 q4=>bD (q4 Z4 s₄ v u r4 (a3.mono h4) a4) fun Z5 led5 s₅ w d h5 r5 a5 q5=>
  PUF ((((h1.trans h2).trans h3).trans h4).trans h5) (q5 Z5 s₅ ov iv w r5 (a1.mono (((h2.trans h3).trans h4).trans h5)) (a2.mono ((h3.trans h4).trans h5)) a5))
end
end
section
noncomputable abbrev cT:PySem.Str:=⟨⟨[115,117,112,101,114]⟩⟩
noncomputable abbrev ck:PySem.Str:=⟨⟨[95,95,99,108,97,115,115,95,95]⟩⟩
structure dK (c:Cst) (C cl:Addr) (cd:ClassData):Prop where
 mk':dX c.K C=true
 kp:keepIn c.K (.ref C)=true
 cell:∃ o,c.H0.get? cl=some o/\o.data = .cell (some (.ref C))
 obj:∃ od sl,c.H0.get? C=some ⟨.type "type",od,.cls cd,sl⟩
 cls:clsIn c.K C=some cd
 opq:nsIn c.K cStatics "thirdparty.any" = some none
 sub:mroIn c.K C (.ref C)=some true
 lst:mroIn c.K C (.type "list")=some true
 mdl:mroIn c.K C (.type "module")=some false
 nam:(toString cd.qualname.toString++toString "."++toString (Bind.lastOf "list.pop") != "*")=true
 pop:alongIn c.K ⟨⟨[112,111,112]⟩⟩ ((cd.mro.dropWhile (· != .ref C)).drop 1)=some (some (.builtin "list.pop"))
 len:alongIn c.K ⟨⟨[95,95,108,101,110,95,95]⟩⟩ ((cd.mro.dropWhile (· != .ref C)).drop 1)=some (some (.builtin "list.__len__"))
 ini:alongIn c.K ⟨⟨[95,95,105,110,105,116,95,95]⟩⟩ ((cd.mro.dropWhile (· != .ref C)).drop 1)=some (some (.builtin "list.__init__"))
 sup:c.mg cT=none/\c.mb cT=some (.type "super")
 top:(c.prog.main.scope.names.lookup cT).isSome=false
 mro:cd.mro=[.ref C,.type "list",.type "object"]
 ga:findIn c.K (.ref C) "__getattribute__" = some (some (.builtin "list.__getattribute__"))
 gh:findIn c.K (.ref C) "__getattr__" = some none
 sa:findIn c.K (.ref C) "__setattr__" = some (some (.builtin "object.__setattr__"))
 hd:hasDictIn c.K C=true
structure FnS (c:Cst) (a cl:Addr) (t:Txt) (fd:FuncData):Prop where
 o:∃ o,c.H0.get? a=some o/\o.data = .func fd
 code:c.H0.CodeRec fd.code fd.qualname
 file:∃ cc o vs f tf,fd.code = .ref cc/\c.H0.get? cc=some o/\o.data = .fields vs/\vs[2]? = some (.str f tf)/\((c.prog.main.file:PySem.Str) == f)=true
 bd:fd.body = .stmts t.body
 pr:fd.params=t.pars
 sc:fd.scope=t.scope
 cl:fd.closure=[(ck,cl)]
 gl:fd.globals=mainGlobals
 bu:fd.builtins=builtinsNs
theorem At.self {l:Led}{a:Addr}{x:Ch} (h:At l a x):Up l a x x l:=h.rec .h fun u_ ih=>.t ih
noncomputable def ExsW (c:Cst) (A:Around) (body:List Stmt) (env:Env) (st:List Stmt) (led:Led) (Q:Fl->Led->Prop):Prop:=
 ∀ Z s,R c Z led s->_root_.PySem.wpAt c.M A (.func body env) (execs st env) (PF c Z Q) noE s
noncomputable def EvW (c:Cst) (A:Around) (body:List Stmt) (env:Env) (e:Expr) (led:Led) (Q:D->Led->Prop):Prop:=
 ∀ Z s,R c Z led s->_root_.PySem.wpAt c.M A (.func body env) (eval e env) (P1 c Z Q) noE s
section
variable {c:Cst}{A:Around}{env:Env}{led:Led}{Z Z':HP}{s:Shared}{body:List Stmt}
theorem ExsW.nil {Q:Fl->Led->Prop} (h:Q .next led):ExsW c A body env [] led Q:=fun Z s r=>_root_.PySem.wpAt_of_wpAny (Exs.ni h Z s r)
theorem ExsW.cons {st:Stmt}{rest:List Stmt}{Q:Fl->Led->Prop} (h:Ex c A env st led fun f led₁=>match f with | .next=>ExsW c A body env rest led₁ Q | f=>Q f led₁):ExsW c A body env (st::rest) led Q:=fun Z s r=>
 ks_wpAt_execs_cons (_root_.PySem.wpAt_of_wpAny (je (h Z s r) fun Z1 led₁ s₁ f g h1 r1 a1 q1=>by
  induction a1 with
  | next=>exact _root_.PySem.wpAt_mono (q1 Z1 s₁ r1) (fun u_ u_ y=>PF.le h1 y) noE.im
  | brk=>exact ⟨Z1,led₁,_,h1,r1,.brk,q1⟩
  | cont=>exact ⟨Z1,led₁,_,h1,r1,.cont,q1⟩
  | ret a=>exact ⟨Z1,led₁,_,h1,r1,.ret a,q1⟩))
theorem ExsW.ret {e:Expr}{pos:Pos}{rest:List Stmt}{Q:Fl->Led->Prop} (h:EvW c A body env e led fun d led₁=>Q (.ret d) led₁):ExsW c A body env (.Return (some e) pos::rest) led Q:=fun Z s r=>
 ks_wpAt_execs_cons (ks_wpAt_Return_some (_root_.PySem.wpAt_mono (h Z s r) (fun v s₁ ⟨Z1,led₁,d,h1,r1,a1,q⟩=>⟨Z1,led₁,_,h1,r1,.ret a1,q⟩) noE.im))
theorem ExsW.expr {e:Expr}{pos:Pos}{rest:List Stmt}{Q:Fl->Led->Prop} (hi:interactive env=false) (hs:swapsWith e none pos.line env=pure false) (h:EvW c A body env e led fun d led₁=>ExsW c A body env rest led₁ Q):ExsW c A body env (.Expr e pos::rest) led Q:=fun Z s r=>
 ks_wpAt_execs_cons (ks_wpAt_Expr_any (_root_.PySem.wpAt_mono (h Z s r) (fun v s₁ ⟨Z1,led₁,d,h1,r1,a1,q⟩=>_root_.PySem.wpAt_mono (q Z1 s₁ r1) (fun u_ u_ y=>PF.le h1 y) noE.im) noE.im) hi hs)
theorem Kpr.bb {T id:String}{x:Addr} (hT:T = "method-wrapper"\/T = "builtin_function_or_method"):Kpr c (.obj (bbO T id x)) led:=fun Z s g r a=>a.obj' fun q e=>by
 refine ⟨.machine,.inr (.inl rfl),(Looks.ld (part:=none) (r.zin _ _ e)).andThen ?_⟩
 rcases hT with rfl | rfl <;> exact .now
theorem Cc.bbLen {x Kl dx:Addr}{ds:List D}{Q:D->Led->Prop} (hm:At led x (.pile Kl dx ds)) (h:Q (.int ds.length) led):Cc c A (.obj (bbO "method-wrapper" "list.__len__" x)) [] led Q:=fun Z s g vs r a av=>a.obj' fun q e=>by
 cases av
 obtain ⟨o,ho,hx⟩:=r.at_ hm
 induction hx using Ch.On.ePile with
 | @pile ws n aw=>
  obtain ⟨hh,gn,d,t,os⟩:=s
  refine jq rfl (r.zin _ _ e) kind_len (gA _) (plainId_quiet gK _) (codeAny_builtin fF ?_)
  refine rP (Around.under_plainId gK _) ?_
  refine run_len ho ?_
  refine rP aw.length ?_
  exact mk1 (r.toks _) .int h
theorem Cc.bbInit {x Kl dx:Addr}{Q:D->Led->Prop} (hm:At led x (.pile Kl dx [])) (h:Q .none led):Cc c A (.obj (bbO "method-wrapper" "list.__init__" x)) [] led Q:=fun Z s g vs r a av=>a.obj' fun q e=>by
 cases av
 obtain ⟨o,ho,hx⟩:=r.at_ hm
 induction hx using Ch.On.ePile with
 | @pile ws n aw=>
  cases aw
  obtain ⟨hh,gn,d,t,os⟩:=s
  refine jq rfl (r.zin _ _ e) mU (fJ _) (plainId_quiet fK _) (codeAny_builtin eS ?_)
  refine rP (Around.under_plainId fK _) ?_
  refine run_init ho ?_
  have u:=hm.self
  exact mk1 (r.turn (s:=⟨hh,gn,d,t,os⟩) (t:=t) u (Heap.SameBut.update ..) (Heap.get?_update_self _ ho rfl) (.pile .nil)) .none h
theorem mW {C dx:Addr}{vs:List Value}{v:Value}{n:Nat}:∃ n',Obj.mapSeq (fun xs=>xs.eraseIdxIfInBounds vs.length) (bF C dx (vs++[v]) n)=bF C dx vs n':=by
 refine ⟨?_,?_⟩
 rotate_left
 ·unfold Obj.mapSeq
  have e:(vs++[v]).toArray.eraseIdxIfInBounds vs.length=vs.toArray:=by
   unfold Array.eraseIdxIfInBounds
   refine rP (dif_pos (by simp)) ?_
   simp [List.eraseIdx_append_of_length_le]
  simp only [e]
  rfl
theorem AVs.last {w:World}{Z:HP}:∀ {ds:List D}{d:D}{vs:List Value},AVs w Z vs (ds++[d])->∃ us v,vs=us++[v]/\AVs w Z us ds/\AV w Z v d
 | [],d,_,h=>h.one' (L:=fun vs=>∃ us v,vs=us++[v]/\AVs w Z us []/\AV w Z v d) fun v a=>⟨[],v,rfl,.nil,a⟩
 | e::ds,d,_,h=>h.cons' (L:=fun vs=>∃ us v,vs=us++[v]/\AVs w Z us (e::ds)/\AV w Z v d) fun v vs a b=>by
  obtain ⟨us,u,rfl,h1,h2⟩:=AVs.last b
  exact ⟨v::us,u,rfl,.cons a h1,h2⟩
theorem Cc.bbPop {x C cl dx:Addr}{cd:ClassData} (K:dK c C cl cd) (ok:c.Ok){ds:List D}{d:D}{led':Led}{Q:D->Led->Prop} (u:Up led x (.pile C dx (ds++[d])) (.pile C dx ds) led') (hz:ds.length<sizeLine) (h:Q d led'):Cc c A (.obj (bbO "builtin_function_or_method" "list.pop" x)) [] led Q:=fun Z s g vs r a av=>a.obj' fun q e=>by
 cases av
 obtain ⟨o,ho,hx⟩:=r.at_ u.at
 induction hx using Ch.On.ePile with
 | @pile ws n aw=>
  obtain ⟨us,v,rfl,a1,a2⟩:=aw.last
  obtain ⟨od,sl,hC⟩:=K.obj
  have hC':=r.keepH _ _ hC
  have hm:=looks_mroIn (M:=c.M) (r.inK ok) K.mdl
  obtain ⟨hh,gn,dr,t,os⟩:=s
  refine call_pop (r.zin _ _ e) ho rfl (fun c=>by simp) hC' rfl hm K.nam (codeAny_builtin fH ?_)
  refine rP (Around.under_plainId gL _) ?_
  refine run_pop (by refine rP a1.length ?_; exact hz) ho ?_
  obtain ⟨n',e⟩:=mW (C:=C) (dx:=dx) (vs:=us) (v:=v) (n:=n)
  exact mk1 (r.turn (s:=⟨hh,gn,dr,t,os⟩) (t:=t) u (Heap.SameBut.update ..) (Heap.get?_update_self _ ho (by refine rP e ?_; rfl)) (by refine rP e ?_; exact .pile a1)) a2 h
end
end
section
theorem iq:(PySem.Str.ofString "super")=cT:=by decide +kernel
theorem fc:(PySem.Str.ofString "__class__")=ck:=by decide +kernel
section
variable {c:Cst}{A:Around}{led:Led}{Z Z':HP}{s:Shared}{C cl dx x a L:Addr}{cd:ClassData}{t:Txt}{fd:FuncData}
theorem EvW.sup {id T bt gid:String}{G:Builtin} (B:BM id T bt gid G) (hbt:bt = "method-wrapper"\/bt = "builtin_function_or_method") (K:dK c C cl cd) (F:FnS c a cl t fd) (ok:c.Ok){p0 p1 apos pos:Pos}{name:PySem.Str}{ar:Arg}{ds:List D}{m:List (PySem.Str×D)}{Q:D->Led->Prop}
  (hal:alongIn c.K name ((cd.mro.dropWhile (· != .ref C)).drop 1)=some (some (.builtin id)))
  (hline:(apos.endLine == pos.line)=true)
  (hk:t.scope.kind = .function) (hks:t.scope.names.lookup cT=some .globalImplicit) (hkc:t.scope.names.lookup ck=some .free) (hn:(name == ck)=false)
  (hp:(t.pars.posonlyargs++t.pars.args).head? = some ar) (hka:t.scope.names.lookup ar.arg=some .local) (hm:At led L (.ns m)) (hx:m.lookup ar.arg=some (.ref x)) (hpl:At led x (.pile C dx ds))
  (h:Cl c A (.obj (bbO bt id x)) [] led Q):EvW c A t.body (fE fd t a L [(ck,cl)]) (.Call (.Attribute (.Call (.Name cT p0) [] [] p1) name apos) [] [] pos) led Q:=fun Z s r=>by
 refine rP (arm_eval_Call _ _ _ _ _ _ _) ?_
 refine _root_.PySem.wpAt_bind ?_
 obtain ⟨of,hof,hofd⟩:=F.o
 obtain ⟨cc,occ,vs,f,tf,hcc,hoc,hocd,hvs,hfile⟩:=F.file
 obtain ⟨ocl,hocl,hcld⟩:=K.cell
 obtain ⟨od,sl,hC⟩:=K.obj
 obtain ⟨ox,hox,hpx⟩:=r.at_ hpl
 obtain ⟨mv,hns,kns⟩:=r.ns hm
 obtain ⟨vx,hvx,ax⟩:=kns _ _ hx
 cases ax using AV.eVal
 induction hpx using Ch.On.ePile with
 | @pile ws n aw=>
 refine ks_wpAt_super_base (env:=fE fd t a L [(ck,cl)]) (by refine rP iq ?_; exact hks) (by refine rP fc ?_; exact hkc) (by refine rP fc ?_; exact hn) rfl (r.keepH _ _ hof) hofd (by refine rP F.pr ?_; exact hp) hcc (r.keepH _ _ hoc) hocd hvs hfile (by refine rP iq ?_; exact K.top) ?_
 refine rP iq (rP fc ?_)
 refine rP (loadName_read (env:=fE fd t a L [(ck,cl)]) hk hks) ?_
 refine PySem.Calls.loadGlobal_builtin (ok.g.keeps r.keepH) K.sup.1 (ok.b.keeps r.keepH) K.sup.2 ⟨rfl,?_⟩
 refine wpAny_loadName_free (env:=fE fd t a L [(ck,cl)]) (c:=cl) hk hkc rfl ⟨_,r.keepH _ _ hocl,hcld⟩ ?_ (by decide +kernel)
 refine wpAny_loadName_local (env:=fE fd t a L [(ck,cl)]) hk hka hns hvx ?_
 obtain ⟨hh,gn,dr,tk,os⟩:=s
 refine ks_wpAny_isType_cls (r.keepH _ _ hC) rfl ⟨rfl,?_⟩
 refine ks_wpAny_call_super (r.keepH _ _ hC) rfl hox rfl (fun c=>by simp -iota) (looks_mroIn (r.inK ok) K.sub) fun h' hso kp=>?_
 refine _root_.PySem.wpAt_of_wpAny (aa (wpAny_standAt ?_))
 obtain ⟨hz,r1⟩:=r.newZ (t:=tk) (R.none_of_ge (aC _)) kp hso
 unfold methodCall
 have hform:methodCallForm ((([]:List Expr).length)+([]:List Keyword).length) (backTo pos (starEach [] (fE fd t a L [(ck,cl)]))) (backToKw pos (keywordEach [] (fE fd t a L [(ck,cl)])))=true:=rfl
 refine rP hform ?_
 have hpos:methodCallPos true (.Call (.Name cT p0) [] [] p1) (fE fd t a L [(ck,cl)]) apos pos=pure pos:=by unfold methodCallPos; simp -iota [hline]
 refine aa (aV ?_)
 have X':c.K.In h':=r1.inK ok
 have hC1:h'.get? C=_:=r1.keepH _ _ hC
 have hm1:Looks c.M h' (mroOf (.ref C)) cd.mro:=(looks_clsIn X' K.cls).andThen .now
 have hxC:x≠C:=fun e=>by
  have e1:=r.keepH _ _ hC
  rw [<- e,hox] at e1
  cases e1
 refine lL B (x:=x) (C:=C) hso (looks_opaque X' K.opq) hm1 rfl X' hal (kp _ _ hox) rfl (looks_mroIn X' K.lst) hxC (by refine rP fc ?_; exact hn) ?_
 refine aa (wpAny_of_eq hpos ?_)
 obtain ⟨hz2,r2⟩:=r1.pushZ (o:=bbO bt id x) rfl
 refine ac (eD (env:=fE fd t a L [(ck,cl)]) (args:=[]) (p:=pos) (r2.toks (tk+1)) (.obj HP.sf) .nil rfl (Evs.ni ⟨Kpr.bb hbt,h⟩)) (fun u_ u_ y=>P1.le (hz.trans hz2) y) noE.im
theorem FnS.call {ds:List D}{m:List (PySem.Str×D)}{n:Nat}{Q:D->Led->Prop} (F:FnS c a cl t fd) (ok:c.Ok) (hA:Aok A (n+1)) (hb:∀ Z s vs,R c Z led s->AVs c.w Z vs ds->∃ l,BindsTo s fd ⟨vs,[]⟩ l/\Binds c.w Z l m)
  (hco:t.scope.isCoroutine=false) (hgen:t.scope.isGenerator=false) (hce:bG t.scope.names=[])
  (h:∀ L A',Aok A' n->Bnd c A.in1 (fE fd t a L [(ck,cl)]) m ((L,.ns [])::led) fun led₁=>ExsW c A' t.body (fE fd t a L [(ck,cl)]) t.body led₁ (bS Q led)):Cc c A (.ref a) ds led Q:=fun Z s g vs r x av=>x.val' <| by
 obtain ⟨o,ho,hd⟩:=F.o
 obtain ⟨l,hb,bs⟩:=hb Z s vs r av
 have hroom:A.depth<recursionLimit:=by have:=hA.hd; unfold recursionLimit; exact nD (aB (nR this)) rfl
 refine codeAny_call_function hroom (r.keepH _ _ ho) hd (by refine rP F.sc ?_; exact hco) (by refine rP F.sc ?_; exact hgen) F.bd (F.code.keeps r.keepH) (hb _ _ _ _ ?_)
 refine ac (wpEnv (Q:=fun env s₂=>s₂.heap.NoLimit/\codeAny c.M A (.func t.body env) (fun r s'=>match r with | .ok (.ret v)=>P1 c Z Q v s' | .ok _=>False | .error e=>noE e s') s₂) r bs fun L=>?_) (fun u_ u_ y=>y) noE.im
 refine rP F.sc (rP hce (rP F.cl ?_))
 refine rP F.gl (rP F.bu ?_)
 unfold wCells
 refine Bnd.imp (fun led₁ ex Z1 s₁ hz r1=>⟨ok.lim.keeps r1.keepH,ks_codeAny_funcAt ?_⟩) _ _ (h L _ (hA.deep (fE fd t a L [(ck,cl)])))
 refine _root_.PySem.wpAt_mono (ex Z1 s₁ r1) (fun f s₂ q=>?_) noE.im
 obtain ⟨Z₂,led₂,g,h2,r2,a2,led3,wk,q⟩:=q
 have r3:=r2.weak wk
 induction a2 with
 | ret av=>exact ⟨Z₂,led3,_,hz.trans h2,r3,av,q⟩
 | _=>exact ⟨Z₂,led3,_,hz.trans h2,r3,.none,q⟩
end
end
end Mine.Internal
end
section
open PySem PySem.W PySem.F PyProof.Rows Builtin.ObjectAttr
namespace Mine.Internal
section
theorem jW (self:Value):refuseLoop self "__setattr__" [.type "list",.type "object"]=pure ():=by kernel_rfl
theorem jX:builtinKind "list.append" = some .method:=by decide +kernel
theorem jr:splitId "list.append" = some ("list","append"):=by decide +kernel
theorem jt:entryFor table "list.append" = some Builtin.«list.append»:=entryFor_of_tree (by kernel_rfl)
theorem jY (a b:Value):argsOk "list.append" ⟨[a,b],[]⟩:=by
 unfold argsOk; refine rP (signature?_of (id:="list.append") (n:=['d','n','e','p','p','a']) (o:=['t','s','i','l']) (by kernel_rfl) owner_list) ?_; kernel_rfl
theorem kind_lga:builtinKind "list.__getattribute__" = some .slot:=by decide +kernel
theorem mX:splitId "list.__getattribute__" = some ("list","__getattribute__"):=by decide +kernel
theorem ju:plainId "list.append" = true:=by decide +kernel
section
variable {prog:Program}{w:World}{A:Around}{E:Value->Shared->Prop}{s:Shared}{K:Frag}{x C:Addr}{ox:Obj}{od:Option Obj}{name:PySem.Str}{R:Result->Shared->Prop}{cd:ClassData}
theorem osa_L {tk:Tok}{v:Value} (X:K.In s.heap) (I:InstAt s.heap x ox C od) (hc:clsIn K C=some cd) (hm:cd.mro=[.ref C,.type "list",.type "object"]) (ht:takerIn K C name=some none)
  (h:∀ b,wpAny (model prog w) A.in1 (storeInOwnDict (.ref x) (.ref C) (.str name tk) name v b)
   (fun fin s'=>match fin with | .done f=>R (.ok f) s' | .again c'=>c'.quiet=true/\codeAny (model prog w) A c' R s') (fun e s'=>R (.error e) s') s) :
  codeAny (model prog w) A (.call (.builtin "object.__setattr__") ⟨[.ref x,.str name tk,v],[]⟩) R s:=by
 have SF:=PySem.F.store_object
 have sub:Looks (model prog w) s.heap (isInstance (.ref x) (.type "object")) true:=I.type.andThen (looks_mroIn X (by unfold mroIn; refine rP hc (rP (Option.bind_some _ _) (rP hm ?_)); simp))
 refine codeAny_call_builtin SF.slot.plain SF.entry (@check_slot (model prog w) _ _ s "object.__setattr__" "object" "__setattr__" (.ref x) [.str name tk,v] [] _ SF.kind SF.split sub (SF.args (.ref x) (.str name tk) v) ?_)
 obtain ⟨attr,ha,hr⟩:=Option.bind_eq_some_iff.mp ht
 have hm':Looks (model prog w) s.heap (mroOf (.ref C)) cd.mro:=(looks_clsIn X hc).andThen .now
 have L3:Looks (model prog w) s.heap (storeTaker? attr) none:=by
  induction attr with
  | none=>exact .now
  | some a=>
   obtain ⟨b,hb,e⟩:=Option.map_eq_some_iff.mp hr
   refine (looks_takesIn X hb).andThen ?_
   cases b
   ·exact .now
   ·exact sN e
 refine rP (osa_eq _ _ _ _) (rP (refuse_eq _ _) ?_)
 refine aa (aa (I.type.here (aa (hm'.here ?_))))
 refine rP hm (rP (refuseLoop_ref _ _ _ _) (rP (jW _) ?_))
 refine ab (aa (I.type.here (aa ((looks_findIn X ha).here (aa (L3.here ?_))))))
 exact h _
theorem meth_L {f:Value}{T:String}{pl:Sem Bool}{Q:Value×List Value->Shared->Prop} (X:K.In s.heap) (I:InstAt s.heap x ox C od) (hga:findIn K (.ref C) "__getattribute__" = some (some (.builtin "list.__getattribute__"))) (hk:findIn K (.ref C) "__getattr__" = some none)
  (hf:findIn K (.ref C) name=some (some f)) (ht:typeIn K f=some (.type T)) (hT:(Value.type T != .type "function" && Value.type T != .type "method_descriptor" && Value.type T != .type "wrapper_descriptor")=false) (hs:shadowIn od name=some false) (h:Q (f,[.ref x]) s) :
  wpAny (model prog w) A (getMethod (.ref x) name pl) Q E s:=by
 have hcan:=canon_list_getattribute
 unfold getMethod specialOf
 refine aa (aa (I.type.here ((looks_findIn X hga).here ?_)))
 dsimp only
 refine rP hcan (rP (aX (by decide)) ?_)
 refine aa (aa (I.type.here ((looks_findIn X hk).here ?_)))
 refine aa (aa (I.type.here ((looks_findIn X hf).here (aa ((looks_typeIn X ht).here ?_)))))
 refine rP (aX (by rw [hT]; decide)) ?_
 refine aa (wpAny_loadPart I.at_ ?_)
 have hd:=I.dict
 cases e:ox.dict with
 | none=>exact aa (wpAny_rule (ab h))
 | some dx=>
  induction od with
  | none=>rw [e] at hd; exact hd.elim
  | some o=>
   rw [e] at hd
   obtain ⟨r,a,b⟩:=Option.map_eq_some_iff.mp hs
   refine aa (aa (wpAny_loadPart hd ?_))
   refine rP (nsLook_of a) ?_
   refine ab ?_
   refine rP b ?_
   exact aa (wpAny_rule (ab h))
theorem get_L {v:Value}{expr:Bool}{Q:Value->Shared->Prop} (X:K.In s.heap) (I:InstAt s.heap x ox C od) (hga:findIn K (.ref C) "__getattribute__" = some (some (.builtin "list.__getattribute__"))) (hk:findIn K (.ref C) "__getattr__" = some none)
  (hsub:mroIn K C (.type "list")=some true) (hf:findObj K C od name=some (.value v)) (hh:handedIn v=true) (h:Q v { s with toks:=s.toks+1 }):wpAny (model prog w) A (getAttr (.ref x) name expr) Q E s:=by
 obtain ⟨hp,g,d,t,os⟩:=s
 have L0:=I.type (M:=model prog w)
 have L1:=looks_findIn (M:=model prog w) X hga
 have L2:=looks_find (M:=model prog w) X I hf
 have i1:Looks (model prog w) hp (isInstance (.ref x) (.type "list")) true:=L0.andThen (looks_mroIn X hsub)
 unfold getAttr getAttrBy
 refine aa (wpAny_mkText (aV (aa (L0.at (aa (L1.at ?_))))))
 refine (?_:wpAny _ _ (getAttrByItsOwn (.ref x) (.str name t) (.ref C) (.builtin "list.__getattribute__") true expr) _ _ _)
 unfold getAttrByItsOwn callGetattribute boundAndCalled
 refine aa ((looks_hook (M:=model prog w) X (mc:=.ref C) (r:=none) (by exact hk)).at ?_)
 have e0:(expr && onTheHeap (.builtin "list.__getattribute__"))=false:=by cases expr <;> rfl
 refine rP e0 ?_
 refine aa (wpAny_attempt (aV ?_))
 refine (?_:wpAny _ _ (bindSpecial (.builtin "list.__getattribute__") (.ref x) >>= _) _ _ _)
 refine aa (wpAny_of_eq (F.slot_list_getattribute.bind _) ?_)
 refine (?_:wpAny _ _ (call (.builtin "list.__getattribute__") [.ref x,.str name t]) _ _ ⟨hp,g,d,t+1,os⟩)
 refine wpAny_call ?_
 refine codeAny_call_builtin F.slot_list_getattribute.plain F.entry_list_ga (@check_slot (model prog w) _ _ ⟨hp,g,d,t+1,os⟩ "list.__getattribute__" "list" "__getattribute__" (.ref x) [.str name t] [] _ kind_lga mX i1 (F.args_list_getattribute_2 (.ref x) (.str name t)) ?_)
 unfold Builtin.«object.__getattribute__»
 refine aa (wpAny_of_eq (a:=(.ref x,[.str name t])) rfl ?_)
 refine aa (ab (aa (L0.at (aa (L2.at ?_)))))
 refine ab ?_
 refine (?_:wpAny _ _ (handedOut v) _ _ _)
 refine rP (handedOut_of hh) ?_; exact ab h
theorem lM {M:Model}{i owner n:String}{self:Value}{rest:List Value}{kw:List (PySem.Str×Value)}{Q:Unit->Shared->Prop}
  (hk:builtinKind i=some .method) (hs:splitId i=some (owner,n)) (hi:Looks M s.heap (isInstance self (.type owner)) true) (ha:argsOk i ⟨self::rest,kw⟩) (q:Q () s) :
  wpAny M A (checkBuiltinCall i ⟨self::rest,kw⟩) Q E s:=by
 unfold checkBuiltinCall
 refine rP hk (rP hs ?_)
 refine aa (hi.here ?_)
 refine rP (aX (by decide)) ?_
 cases hsig:Manifest.signature? i with
 | none=>exact ab q
 | some sig=>
  simp only [argsOk,hsig] at ha
  have h2:Bind.checkArgs i sig ⟨self::rest,kw⟩=pure ():=ha
  refine (?_:wpAny M A (Bind.checkArgs i sig ⟨self::rest,kw⟩) Q E s)
  refine rP h2 ?_; exact ab q
theorem lN {dx:Addr}{vs:List Value}{n:Nat}{v:Value}{Q:Fin->Shared->Prop} (hz:vs.length<sizeLine) (ho:s.heap.get? x=some (bF C dx vs n)) (h:Q (.done (.ret .none)) { s with heap:=s.heap.update x (Obj.mapSeq (·.push v)) }) :
  wpAny (model prog w) A (Builtin.«list.append» ⟨[.ref x,v],[]⟩) Q E s:=by
 unfold Builtin.«list.append»
 refine aa (wpAny_of_eq (a:=(.ref x,v)) rfl ?_)
 refine (?_:wpAny _ _ (updateSeq x (·.push v) >>= _) _ _ _)
 refine aa (wpAny_updateSeq ho rfl (ab h) (by simp <;> exact nL hz) (by simp <;> exact nL hz))
end
end
section
section
variable {c:Cst}{A:Around}{env:Env}{led:Led}{C cl dx a:Addr}{cd:ClassData}{ds:List D}{kvs:List (PySem.Str×D)}{x:PySem.Str}
theorem R.pile {Z:HP}{s:Shared} (r:R c Z led s) (h:At led a (.pile C dx ds)):∃ vs n,s.heap.get? a=some (bF C dx vs n)/\AVs c.w Z vs ds:=by
 obtain ⟨o,ho,hx⟩:=r.at_ h
 induction hx using Ch.On.ePile with
 | pile av=>exact ⟨_,_,ho,av⟩
theorem Mth.pile {f:Value}{T:String}{Q:D->List D->Led->Prop} (K:dK c C cl cd) (ok:c.Ok) (hf:findIn c.K (.ref C) x=some (some f)) (ht:typeIn c.K f=some (.type T)) (hT:(Value.type T != .type "function" && Value.type T != .type "method_descriptor" && Value.type T != .type "wrapper_descriptor")=false)
  (hp:At led a (.pile C dx ds)) (hm:At led dx (.dic kvs)) (hd:cM kvs x=none) (h:Q (.val f) [.ref a] led):Mth c A (.ref a) x led Q:=fun Z s v pl r av=>av.val' <| by
 obtain ⟨vs,n,ho,aw⟩:=r.pile hp
 obtain ⟨o2,ho2,hx⟩:=r.at_ hm
 induction hx using Ch.On.eDic with
 | @dic es n2 ae hn=>
  refine meth_L (r.inK ok) (I:=(⟨ho,rfl,rfl,ho2⟩:InstAt s.heap a (bF C dx vs n) C (some (PySem.W.dictOf es n2)))) K.ga K.gh hf ht hT ?_ ⟨Z,led,_,_,.rfl,r,.val,.cons .val .nil,h⟩
  refine (?_:(lookIn x (PySem.W.dictOf _ _)).map _=_)
  refine rP (lookIn_dict _ _ _) (rP ((ae.getL x).2 hd) ?_); rfl
theorem Sat.pile {d:D}{led':Led}{Q:Led->Prop} (K:dK c C cl cd) (ok:c.Ok) (ht:takerIn c.K C x=some none)
  (hp:At led a (.pile C dx ds)) (u:Up led dx (.dic kvs) (.dic (fy kvs x d)) led') (hz:kvs.length<=900) (h:Q led'):Sat c A (.ref a) x d led Q:=fun Z s v w r av' av=>av'.val' <| by
 obtain ⟨vs,n0,hob,aw⟩:=r.pile hp
 obtain ⟨o,ho,hx⟩:=r.at_ u.at
 induction hx using Ch.On.eDic with
 | @dic es n ae hn=>
  have I:InstAt s.heap a (bF C dx vs n0) C (some (PySem.W.dictOf es n)):=⟨hob,rfl,rfl,ho⟩
  refine set_plain (r.inK ok) I K.sa (osa_L (s:={ s with toks:=s.toks+1 }) (show c.K.In s.heap from r.inK ok) I K.cls K.mro ht fun b=>?_)
  obtain ⟨cd',hc,hd'⟩:=any_some K.hd
  have D1:=ho
  have hlen:es.length<=900:=by have:=ae.vals (prog:=c.prog); obtain ⟨kv,q1,q2,_⟩:=this; have q3:=q2.length; have q4:=congrArg List.length q1; simp at q4; exact nT (aq q3) (nT (aq q4) hz)
  have hput:=putName_dict x (PyData.keyHash c.w.params x) (.str x (s.toks+1)) w es n
  have hsz:(PySem.W.putL x (PyData.keyHash c.w.params x) (.str x (s.toks+1)) w es).length<=1000:=by
   have:∀ l:List DictEntry,(PySem.W.putL x (PyData.keyHash c.w.params x) (.str x (s.toks+1)) w l).length<=l.length+1:=fun l=>by
    induction l with
    | nil=>exact aC _
    | cons e r ih=>rw [PySem.W.putL]; split <;> simp <;> exact ih
   have:=this es; exact nT this (nD (aB hlen) rfl)
  refine aa (ab (aa (aa (wpAny_loadPart hob (aa (looks_clsIn (r.inK ok) hc _ _ _ _ (fun u_ u_ e=>e) ?_))))))
  refine rP hd' ?_
  refine ab (a:=some dx) (aa (ab (aa ?_)))
  unfold nsSet
  refine aa (aa (wpAny_askSetting (ab (aa (wpAny_mkText (aa (wpAny_loadPart D1 ?_)))))))
  dsimp only
  have cc:(!es.toArray.any (·.key.isStr x) && es.toArray.any (·.refKey))=false:=by
   refine rQ Array.any_toList (rQ Array.any_toList ?_)
   have ref:=ae.noRef
   simp [ref]
  refine rP (aRefKeyMayBeTheName_at _ _) (rP cc ?_)
  have D2:=Heap.get?_update_self (Obj.putName x (PyData.keyHash c.w.params x) (.str x (s.toks+1)) w) D1 (by refine rP hput ?_; rfl)
  refine wpAny_updatePart D1 ?_
  refine aa (wpAny_lookBehind D2 (by refine rP hput ?_; exact pastItsLine_dict (by refine rP aE (rP ai ?_); exact nD hsz rfl)) ?_)
  refine ab (mkU ?_ h)
  exact r.turn (t:=s.toks+2) u (Heap.SameBut.update ..) (D2.trans (congrArg some hput)) (.dic (ae.putL hn x _ av) (gH hn))
theorem Cc.clsL {fI:Addr}{n:Nat}{Q:D->Led->Prop} (K:dK c C cl cd) (ok:c.Ok) (hA:Aok A (n+2)) (hi:findIn c.K (.ref C) "__init__" = some (some (.ref fI))) (hf:typeIn c.K (.ref fI)=some (.type "function"))
  (h:∀ a dx A',Aok A' n->Cc c A' (.ref fI) [.ref a] ((a,.pile C dx [])::(dx,.dic [])::led) fun d led'=>d = .none/\Q (.ref a) led'):Cc c A (.ref C) [] led Q:=fun Z s g vs r x av=>x.val' <| by
 cases av
 obtain ⟨hh,gn,d,t,os⟩:=s
 have X:=r.inK ok
 refine make_L (mS X K.mk') (looks_findIn X hi) (fun self=>bind_fn X self hf) ?_
 have r1:=r.push (o:=emptyDict) (x:=.dic []) (.dic .nil .nil)
 have r2:=r1.push (o:=bF C hh.objs.size [] 0) (x:=.pile C hh.objs.size []) (.pile .nil)
 rw [show (({ heap:=hh,gens:=gn,drawn:=d,toks:=t,os:=os }:Shared).heap.push emptyDict).objs.size=hh.objs.size+1 from Heap.size_push ..] at r2
 refine codeAny_mono (h _ _ _ (hA.underCall _) _ _ (.ref fI) [.ref (hh.objs.size+1)] r2 .val (.cons .val .nil)) fun r' s' q=>?_
 induction r' with
 | error e=>exact q
 | ok fl=>
  induction fl with
  | ret v=>
   obtain ⟨Z2,led2,d2,h2,r3,a3,e3,q⟩:=q
   subst e3
   exact ⟨a3.none' (P:=fun v=>v = .none) rfl,Z2,led2,_,h2,r3,.val,q⟩
  | _=>exact q
theorem Cl.appendP {d:D}{led':Led}{Q:D->Led->Prop} (K:dK c C cl cd) (ok:c.Ok) (u:Up led a (.pile C dx ds) (.pile C dx (ds++[d])) led') (hz:ds.length<sizeLine) (h:Q .none led'):Cl c A (.val (.builtin "list.append")) [.ref a,d] led Q:=.of2 fun Z s v w r y z=>y.val' <| by
 obtain ⟨vs,n,ho,aw⟩:=r.pile u.at
 have X:=r.inK ok
 have i1:Looks c.M s.heap (isInstance (.ref a) (.type "list")) true:=((Looks.ld (part:=none) ho).andThen .now).andThen (looks_mroIn X K.lst)
 refine wpAny_call (codeAny_call_builtin ju jt (lM (s:=s) (M:=c.M) (i:="list.append") (owner:="list") (n:="append") (self:=.ref a) (rest:=[w]) (kw:=[]) jX jr i1 (jY (.ref a) w) ?_))
 refine lN (by refine rP aw.length ?_; exact hz) ho ?_
 obtain ⟨n',e⟩:∃ n',Obj.mapSeq (·.push w) (bF C dx vs n)=bF C dx (vs++[w]) n':=by
  refine ⟨?_,?_⟩
  rotate_left
  ·unfold Obj.mapSeq
   simp only [List.push_toArray]
   rfl
 exact mk1 (r.turn (t:=s.toks) u (Heap.SameBut.update ..) (Heap.get?_update_self _ ho (by refine rP e ?_; rfl)) (by refine rP e ?_; exact .pile (aw.snoc z))) .none h
end
end
end Mine.Internal
end
section
open PySem PySem.W PySem.F PyProof.Rows
namespace Mine.Internal
section
noncomputable def Oth (led:Led) (o:D) (ds:List D):Prop:=o = .lst ds\/∃ l,o = .ref l/\At led l (.lst ds)
section
variable {c:Cst}{A:Around}{env:Env}{led:Led}{o:D}{all:List D}
theorem Oth.len {Q:D->Led->Prop} (x:Oth led o all) (hz:all.length<=sizeLine) (h:Q (.int all.length) led):Cl c A (.val (.builtin "len")) [o] led Q:=by
 rcases x with rfl | ⟨l,rfl,hm⟩
 ·exact Cl.lenL hz h
 ·exact Cl.lenM hm hz h
noncomputable def D.unval:D->Value
 | .val v=>v
 | _=>.none
inductive OthOk (c:Cst) (A:Around) (env:Env) (o:D) (all:List D) (tgt:Expr) (body:List Stmt) (Q:Fl->Led->Prop) (d:D) (led₁:Led):Prop
 | mk:d=o->Oth led₁ o all->(inv:List D->Led->Prop)->inv all led₁->(∀ ds l,inv ds l->Oth l o all/\ds <:+ all)->
   (∀ d rest l I X,inv (d::rest) l->Asg c A env tgt d ((I,X)::l) fun l₂=>Exs c A env body l₂ (hK Q I X (inv rest)))->(∀ l,inv [] l->Q .next l)->OthOk c A env o all tgt body Q d led₁
theorem Oth.for_ {tgt iter:Expr}{body:List Stmt}{pos:Pos}{Q:Fl->Led->Prop} (hh:A.handled=none) (hs:∀ x,foldedSetIterable iter env x=pure x) (x:Oth led o all)
  (h:Ev c A env iter led (OthOk c A env o all tgt body Q)):Ex c A env (.For tgt iter body [] pos) led Q:=by
 refine Ex.for_ hs fun Z s r=>bD (h Z s r) fun Z1 led₁ s₁ v d h1 r1 a1 q=>⟨Z1,led₁,d,h1,r1,a1,?_⟩
 obtain ⟨rfl,x1,inv,i0,i1,i2,i3⟩:=q
 rcases x with rfl | ⟨l,rfl,_⟩
 ·exact Itr.lst fun I=>⟨I,_,_,_,_,rfl,Cur.it hh _ I,rfl,inv,i0,fun u_ u_ u_=>trivial,fun d rest l k=>i2 d rest l I _ k,i3⟩
 ·have at':∀ {l2},Oth l2 (.ref l) all->At l2 l (.lst all):=fun y=>by
   rcases y with y | ⟨l3,y,z⟩
   ·exact nomatch (show Value.ref l=Value.none from congrArg D.unval y)
   ·exact Value.ref.inj (congrArg D.unval y) ▸ z
  refine Itr.lstL (at' x1) fun I=>⟨I,_,_,all,_,rfl,Cur.itL hh _ I l all,?_,inv,i0,fun ds l3 k=>⟨.t (at' (i1 _ _ k).1),(i1 _ _ k).2⟩,fun d rest l3 k=>i2 d rest l3 I _ k,i3⟩
  unfold mG; exact rP (Nat.sub_self _) rfl
end
end
section
theorem lO:builtinKind "list.__iter__" = some .slot:=by decide +kernel
theorem jZ:splitId "list.__iter__" = some ("list","__iter__"):=by decide +kernel
theorem kc:plainId "list.__iter__" = true:=by decide +kernel
section
variable {prog:Program}{w:World}{A:Around}{E:Value->Shared->Prop}{s:Shared}
theorem gM {it l:Addr}{i:Nat}{ol:Obj}{items:Array Value}{nl:Nat}{x:Value}{Q:Option Value->Shared->Prop} (hit:s.heap.IsListIter it l i)
  (hol:s.heap.get? l=some ol) (hdl:ol.data = .seq items nl) (hx:items[i]? = some x)
  (hQ:∀ h',h'.IsListIter it l (i+1)->Heap.SameBut it s.heap h'->Q (some x) { s with heap:=h' }) :
  wpAny (model prog w) A (pyNext (.ref it)) Q E s:=by
 obtain ⟨o,ho,hc,hd⟩:=id hit
 unfold pyNext
 refine aa (wpAny_attempt (wpAny_callSpecial?_slot (name:=Str.ofString "__next__") hit.typeIs slot_listiter_next
  (wpAny_call_entry slot_listiter_next hit.typeIs entry_listiter_next ?_ (args_listiter_next _))))
 refine (?_:wpAny _ _ (field (.ref it) 0 >>= _) _ _ s)
 refine aa (aU ho hd (x:=.ref l) rfl ?_)
 refine (?_:wpAny _ _ (if (Value.ref l == Value.none)=true then _ else _) _ _ s)
 refine rP (aX (show ¬ ((Value.ref l == Value.none)=true) from Bool.false_ne_true)) ?_
 refine (?_:wpAny _ _ (field (.ref it) 1 >>= _) _ _ s)
 refine aa (aU ho hd (x:=.int i 0) rfl ?_)
 refine (?_:wpAny _ _ (seqItems? (.ref l) >>= _) _ _ s)
 refine aa (wpAny_seqItems hol hdl ?_)
 simp only [Int.toNat_natCast,hx]
 refine aa (wpAny_setField ho hd (by simp) (ab ⟨x,rfl,ab (hQ _ ?_ (Heap.SameBut.update ..))⟩))
 exact ⟨_,Heap.get?_update_self _ ho (Obj.isFreed_of_fields (Obj.data_mapFields hd _)),(Obj.cls_mapFields ..).trans hc,by
  refine rP (Obj.data_mapFields hd _) ?_; simp -iota [rawInt]⟩
theorem jv {it l:Addr}{i:Nat}{ol:Obj}{items:Array Value}{nl:Nat}{Q:Option Value->Shared->Prop} (hh:A.handled=none)
  (hit:s.heap.IsListIter it l i) (hol:s.heap.get? l=some ol) (hdl:ol.data = .seq items nl) (hx:items[i]? = none)
  (hQ:∀ h',Heap.ExtBut it s.heap h'->Q none { s with heap:=h' }):wpAny (model prog w) A (pyNext (.ref it)) Q E s:=by
 obtain ⟨o,ho,hc,hd⟩:=id hit
 unfold pyNext
 refine aa (wpAny_attempt (wpAny_callSpecial?_slot (name:=Str.ofString "__next__") hit.typeIs slot_listiter_next
  (wpAny_call_entry slot_listiter_next hit.typeIs entry_listiter_next ?_ (args_listiter_next _))))
 refine (?_:wpAny _ _ (field (.ref it) 0 >>= _) _ _ s)
 refine aa (aU ho hd (x:=.ref l) rfl ?_)
 refine (?_:wpAny _ _ (if (Value.ref l == Value.none)=true then _ else _) _ _ s)
 refine rP (aX (show ¬ ((Value.ref l == Value.none)=true) from Bool.false_ne_true)) ?_
 refine (?_:wpAny _ _ (field (.ref it) 1 >>= _) _ _ s)
 refine aa (aU ho hd (x:=.int i 0) rfl ?_)
 refine (?_:wpAny _ _ (seqItems? (.ref l) >>= _) _ _ s)
 refine aa (wpAny_seqItems hol hdl ?_)
 simp only [Int.toNat_natCast,hx]
 refine aa (wpAny_rule (aa (wpAny_setField ho hd (by simp) ?_)))
 refine (?_:wpAny _ _ (newExc (.type "StopIteration") [] >>= _) _ _ _)
 refine aa ?_
 simp -iota only [newExc,newTuple]
 refine aa (bp ?_ (by size_fits))
 refine aa (m:=firstArgMember _ _) (wpAny_of_eq (a:=Value.none) (by first | rfl | (simp -iota only [firstArgMember]; rfl)) ?_)
 refine bp ?_ (by size_fits)
 simp -iota only [raiseNew]
 refine aa (wpAny_handled ?_)
 refine rP (show A.in1.handled=none from hh) ?_
 refine aa (ab (wpAny_throw ?_))
 refine aa (wpAny_isInstance (T:="StopIteration") (b:=true) ⟨_,bj _ rfl,rfl⟩ isSubtype_stop ?_)
 exact ab (hQ _ (((Heap.SameBut.update ..).extBut.push _).push _))
theorem gN {K:Frag}{x C:Addr}{ox:Obj}{od:Option Obj}{Q:Value->Shared->Prop} (X:K.In s.heap) (I:InstAt s.heap x ox C od) (hs:findIn K (.ref C) "__iter__" = some (some (.builtin "list.__iter__"))) (hsub:mroIn K C (.type "list")=some true)
  (h:Q (.ref s.heap.objs.size) { s with heap:=s.heap.push { cls:=.type "list_iterator",data:=.fields #[.ref x,.int 0 0] } }):wpAny (model prog w) A (pyIter (.ref x)) Q E s:=by
 have i1:Looks (model prog w) s.heap (isInstance (.ref x) (.type "list")) true:=I.type.andThen (looks_mroIn X hsub)
 have fin:wpAny (model prog w) A (call (.builtin "list.__iter__") [.ref x] >>= fun v=>pure (some v)) (fun r s'=>r=some (.ref s.heap.objs.size)/\s'={ s with heap:=s.heap.push { cls:=.type "list_iterator",data:=.fields #[.ref x,.int 0 0] } }) E s:=by
  refine aa (wpAny_call (codeAny_call_builtin kc F.entry_list_iter (check_slot (s:=s) (M:=model prog w) (i:="list.__iter__") (owner:="list") (n:="__iter__") (self:=.ref x) (rest:=[]) (kw:=[]) lO jZ i1 (args_list_iter (.ref x)) ?_)))
  refine (?_:wpAny _ _ (do ret (<- newFields "list_iterator" [.ref x,rawInt 0])) _ _ s)
  exact aa (bp (ab (ab ⟨rfl,rfl⟩)))
 have one:∀ refuse:Sem Value,wpAny (model prog w) A (callSpecialIfBoundUnlessNone? (.ref x) "__iter__" refuse) (fun r s'=>r=some (.ref s.heap.objs.size)/\s'={ s with heap:=s.heap.push { cls:=.type "list_iterator",data:=.fields #[.ref x,.int 0 0] } }) E s:=by
  intro refuse
  simp -iota only [callSpecialIfBoundUnlessNone?,bindSpecialIfBound?]
  refine aV (aa (aa (aa (I.type.here ((looks_findIn X hs).here ?_)))))
  refine aa (wpAny_askSetting (wpAny_ite ?_))
  have fin2:wpAny (model prog w) A (if (Value.builtin "list.__iter__" == Value.none)=true then (refuse >>= fun v=>pure (some v)) else (call (.builtin "list.__iter__") [.ref x] >>= fun v=>pure (some v))) (fun r s'=>r=some (.ref s.heap.objs.size)/\s'={ s with heap:=s.heap.push { cls:=.type "list_iterator",data:=.fields #[.ref x,.int 0 0] } }) E s:=by
   refine rP (aX (show ¬ ((Value.builtin "list.__iter__" == Value.none)=true) from Bool.false_ne_true)) ?_
   exact fin
  have hb:=F.slot_list_iter.bind (.ref x)
  refine gu ?_ ?_
  ·intro _; exact aa (wpAny_of_eq hb (ab (by exact fin2)))
  ·intro _; exact wpAny_tryCatch (aa (wpAny_of_eq hb (ab (by exact fin2))))
 unfold pyIter
 refine aa (aa (I.type.here ((looks_findIn X hs).here ?_)))
 refine (?_:wpAny _ A (callSpecialIfBoundUnlessNone? (.ref x) "__iter__" _ >>= _) Q E s)
 refine aa (ac (one _) (fun r s' hr=>?_) fun u_ u_ z=>z)
 obtain ⟨rfl,rfl⟩:=hr
 refine aa (wpAny_specialOf (name:=Str.ofString "__next__") (T:="list_iterator") ⟨_,bj _ rfl,rfl⟩ slot_listiter_next.lookup ?_)
 exact ab h
end
section
variable {c:Cst}{A:Around}{env:Env}{led:Led}{C cl dx l I:Addr}{cd:ClassData}{all:List D}
theorem Itr.pile {Q:D->Led->Prop} (K:dK c C cl cd) (ok:c.Ok) (hi:findIn c.K (.ref C) "__iter__" = some (some (.builtin "list.__iter__"))) (hp:At led l (.pile C dx all)){kvs:List (PySem.Str×D)} (hd:At led dx (.dic kvs)) (h:∀ I,Q (.ref I) ((I,.itL l 0)::led)):Itr c A (.ref l) led Q:=fun Z s v r av=>av.val' <| by
 obtain ⟨vs,n,ho,aw⟩:=r.pile hp
 obtain ⟨o2,ho2,hx⟩:=r.at_ hd
 refine gN (r.inK ok) (I:=(⟨ho,rfl,rfl,ho2⟩:InstAt s.heap l (bF C dx vs n) C (some o2))) hi K.lst ⟨Z,_,_,.rfl,r.push (o:=cw "list_iterator" [.ref l,.int 0 0]) (x:=.itL l 0) ?_,.val,h _⟩
 exact Ch.On.itL (k:=0) rfl rfl
theorem Cur.itP (hh:A.handled=none) (tgt:Expr):Cur c A tgt (mG l all.length) I (fun ds full=>At full l (.pile C dx all)/\ds <:+ all) where
 more:=fun d rest full full' ⟨hl,pre,he⟩ u Z s r=>by
  obtain ⟨o,ho,hx⟩:=r.at_ u.at
  obtain ⟨vs,n,hol,a⟩:=r.pile hl
  have hk:all.length - (d::rest).length=pre.length:=by refine rQ he (rP aH ?_); exact Nat.add_sub_cancel ..
  have hk':all.length - rest.length=pre.length+1:=by refine rQ he (rP aH (rP aJ ?_)); exact asc1
  unfold mG at hx u
  rw [hk] at hx u
  rw [hk'] at u
  cases hx using Ch.On.eItL with
  | itL h1 h2=>
   obtain ⟨v,hv,av⟩:=a.get (i:=pre.length) (d:=d) (by refine rQ he ?_; simp -iota)
   refine gM ⟨o,ho,h1,h2⟩ hol rfl (by simpa -iota using hv) fun h' hit hs=>?_
   obtain ⟨o',ho',hc',hd'⟩:=hit
   have r2:=r.turn (t:=s.toks) u hs ho' (.itL hc' hd')
   exact cp (c:=c) ho' hc' rfl (mk1 r2 av ⟨rfl,rfl⟩)
 done:=fun full full' ⟨hl,_⟩ u Z s r=>by
  obtain ⟨o,ho,hx⟩:=r.at_ u.at
  obtain ⟨vs,n,hol,a⟩:=r.pile hl
  unfold mG at hx
  cases hx using Ch.On.eItL with
  | itL h1 h2=>
   refine jv hh ⟨o,ho,h1,h2⟩ hol rfl ?_ fun h' hs=>mkU (r.lose (t:=s.toks) u hs) rfl
   refine rP List.getElem?_toArray (rP (propext (List.getElem?_eq_none_iff)) (rP a.length ?_)); simp -iota
end
end
section
theorem lP (a b:Value):argsOk "sum" ⟨[a,b],[]⟩:=by unfold argsOk; kernel_rfl
section
variable {prog:Program}{w:World}{A:Around}{E:Value->Shared->Prop}{s:Shared}
theorem sum2 {x:Value}{t:Tok}{Q:Value->Shared->Prop}
  (h:wpAny (model prog w) A.in1 (pyIter x) (fun it s₂=>∃ I fp wr G n P St val,it = .ref I/\WalksS prog w A.in1 I fp wr G n P St/\St 0 s₂/\(∀ b∈fp,b<s₂.heap.objs.size)/\
   (∀ i v,P i v->∃ t,v = .int (val i) t)/\
   ∀ s' t',Moved wr G s₂ s'->Q (.int (preSum val n) t') s') E s) :
  wpAny (model prog w) A (call (.builtin "sum") [x,.int 0 t]) Q E s:=by
 refine call_function_tree F.kind_sum F.plain_sum F.entry_sum (lP _ _) ?_
 unfold Builtin.«sum»
 simp -iota only [aJ,List.length_nil]
 refine rP (aX (by decide)) ?_
 refine aa (wpAny_of_eq (show Builtin.Builtins.bindParams "sum" ["start"] 0 ⟨[.int 0 t],[]⟩=pure [some (.int 0 t)] from rfl) ?_)
 refine aa (ac h (fun it s₂ h₂=>?_) fun u_ u_ e=>e)
 obtain ⟨I,fp,wr,G,n,P,St,val,rfl,W,hst,hfp,hval,hQ⟩:=h₂
 dsimp only
 refine rP (aY (by rfl)) ?_
 refine aa (wpAny_rule (aa (wpAny_mkInt ?_)))
 refine aa (ab ?_)
 simp -iota only [List.forIn_cons,List.forIn_nil]
 refine aa (aa (aa (wpAny_isInstance (T:="int") (b:=false) (typeIs_int _ _ _) PySem.sub_int_str ?_)))
 simp -iota only [Bool.false_eq_true,if_false]
 refine ab (aa (aa (wpAny_isInstance (T:="int") (b:=false) (typeIs_int _ _ _) PySem.sub_int_bytes ?_)))
 simp -iota only [Bool.false_eq_true,if_false]
 refine ab (aa (aa (wpAny_isInstance (T:="int") (b:=false) (typeIs_int _ _ _) PySem.sub_int_bytearray ?_)))
 simp -iota only [Bool.false_eq_true,if_false]
 refine ab (ab ?_)
 refine aa (bp ?_)
 have hSf:s₂.heap.objs.size ∉ fp:=fun hm=>Nat.lt_irrefl _ (hfp _ hm)
 refine ab ⟨plainId_quiet F.plain_sum_loop _,codeAny_sum_loopAnyS W val hval s₂.heap.objs.size hSf n 0 _ s₂.toks 0 0 (.inl rfl) rfl (aO _)
  (W.frame 0 s₂ _ _ hst (by first | exact aC _ | exact Nat.le_succ _ | omega) fun b u_ o e=>aT _ e) (bj _ rfl) fun s' t' hm=>?_⟩
 exact hQ s' t' (hm.drop_new (by first | exact aC _ | exact Nat.le_succ _ | omega))
end
theorem mY {prog:Program}{w:World}{A:Around} (hh:A.handled=none) (I ax:Addr) (hne:ax≠I) (C dx:Addr) (items:List Value) (n:Nat) (Ts:Nat->Addr) (vals:Nat->Array Value)
  (hit:∀ j,j<items.length->items[j]? = some (.ref (Ts j))) (hTI:∀ j,j<items.length->Ts j≠I) :
  WalksU prog w A I (I::ax::(List.range items.length).map Ts) [I] items.length (fun j v=>j<items.length/\v=vals j)
   (fun j h=>h.IsListIter I ax j/\h.get? ax=some (bF C dx items n)/\∀ k,k<items.length->h.IsTuple (Ts k) (vals k))
   (fun j T h=>(j<items.length/\T=Ts j)/\h.IsListIter I ax (j+1)/\h.get? ax=some (bF C dx items n)/\∀ k,k<items.length->h.IsTuple (Ts k) (vals k)) where
 sub:=fun b hb=>by simp -iota at hb; simp -iota [hb]
 frame:=fun u_ u_ u_ st hk=>⟨st.1.at fun o e=>hk I (by simp -iota) o e,hk ax (by simp -iota) _ st.2.1,
  fun k hk'=>(st.2.2 k hk').at fun o e=>hk (Ts k) (List.mem_cons_of_mem _ (List.mem_cons_of_mem _ (List.mem_map.mpr ⟨k,List.mem_range.mpr hk',rfl⟩))) o e⟩
 item:=fun i s Q E hi st hQ=>by
  refine gM st.1 st.2.1 rfl (x:=.ref (Ts i)) (by simpa -iota using hit i hi) fun h' hit' hs'=>?_
  have tup:∀ k,k<items.length->h'.IsTuple (Ts k) (vals k):=fun k hk'=>(st.2.2 k hk').extBut hs'.extBut (hTI k hk')
  exact hQ (Ts i) (vals i) h' s.toks ⟨hi,rfl⟩ (tup i hi) ⟨⟨hi,rfl⟩,hit',hs'.extBut _ _ hne st.2.1,tup⟩ fun b o hb e=>hs'.extBut b o (fun h=>hb (by simp -iota [h])) e
 go:=fun u_ u_ u_ u_ u_ s Q u_ hm hQ=>wpAny_letOwnedTupleGo_listiter hm.2.1 (hQ s.heap hm.2 fun u_ u_ u_ e=>e)
 apart:=fun j T u_ hm hmem=>by
  rcases List.mem_cons.mp hmem with e | e
  ·exact hTI j hm.1.1 (hm.1.2 ▸ e)
  ·exact mN e
 done:=fun s Q E st hQ=>jv hh st.1 st.2.1 rfl (by simp -iota) fun h' he'=>hQ h' s.toks fun b o hb e=>he' b o (fun h=>hb (by simp -iota [h])) e
 self:=fun u_ u_ u_ u_ st hQ=>wpAny_pyIter_listiter st.1 hQ
theorem R.moved {c:Cst}{Z:HP}{led:Led}{s s':Shared}{T:Addr} (r:R c Z led s) (hT:At led T .tabG) (hk:∀ b o,b≠T->s.heap.get? b=some o->s'.heap.get? b=some o)
  (hT':∃ ps,s'.heap.get? T=some (tabObj ps)/\TriplesOk ps.toList) (hg:c.gok s'.gens) (ho:s'.os=s.os):R c Z led s':=by
 have za:=r.dis _ hT.mem
 refine ⟨r.base,fun b o e=>hk b o (fun q=>by rw [q,za] at e; exact nS e) (r.zin b o e),fun p hp=>?_,r.dis,r.nod,hg,by refine rP ho ?_; exact r.os⟩
 by_cases q:p.1=T
 ·have e:p=(T,.tabG):=by
   rcases hT.self.new r.nod p hp with e | ⟨_,e⟩
   ·exact e
   ·exact absurd q e
  subst e
  obtain ⟨ps,h1,h3⟩:=hT'
  exact ⟨_,h1,.tabG h3⟩
 ·obtain ⟨o,h1,h2⟩:=r.on p hp
  exact ⟨o,hk _ _ q h1,h2⟩
theorem lenEv {prog:Program}{w:World}{A:Around}{E:Value->Shared->Prop}{s:Shared}{env:Env}{x:PySem.Str}{p1 p2 p3:Pos}{y:PySem.Str}{t:Tok}{m mg mb:PySem.Str->Option Value}{Q:Value->Shared->Prop}
  (hk:env.scope.kind = .function) (hl:env.kindOf ⟨⟨[108,101,110]⟩⟩=some .globalImplicit) (hx:env.kindOf x=some .local) (hd:(x == ("__debug__" : PySem.Str))=false)
  (hg:s.heap.Ns env.globals mg) (hb:s.heap.Ns env.builtins mb) (h1:mg ⟨⟨[108,101,110]⟩⟩=none) (h2:mb ⟨⟨[108,101,110]⟩⟩=some (.builtin "len")) (hn:s.heap.Ns env.locals m) (hm:m x=some (.str y t)) (hz:y.length<=sizeLine)
  (h:∀ t k,Q (.int y.length t) { s with toks:=k }):wpAny (model prog w) A (eval (.Call (.Name ⟨⟨[108,101,110]⟩⟩ p1) [.Name x p2] [] p3) env) Q E s:=by
 refine rP (arm_eval_Call_Name' _ _ _ _ _ _) ?_
 refine aa (wpAny_Name ?_ (by decide +kernel))
 refine rP (loadName_read hk hl) ?_
 refine PySem.Calls.loadGlobal_builtin hg h1 hb h2 ?_
 refine callWith_of (P:=fun u_=>True) rfl (fun u_ u_=>⟨.machine,.inr (.inl rfl),.now⟩) (PySem.Calls.evalArgs_plain ?_)
 refine wpAny_items_cons (wpAny_Name (wpAny_loadName_local hk hx hn hm (wpAny_items_nil ⟨trivial,?_⟩)) hd)
 exact PyProof.Rows.len_str (by have:=fv hz; exact Int.not_le.2 this) (h _ _)
theorem nFD {a:Array Value}{b:Array DictEntry}{n:Nat} (h:Data.fields a = .dict b n):False:=nomatch h
theorem nFS {a b:Array Value}{n:Nat} (h:Data.fields a = .seq b n):False:=nomatch h
noncomputable abbrev mu:PySem.Str:=⟨⟨[95,105,110,105,116,105,97,108,95,115,105,122,101]⟩⟩
structure CodAt (c:Cst) (fd:FuncData) (cc P:Addr):Prop where
 code:fd.code = .ref cc
 hd:CodeHd c.H0 cc P
 ne:mainGlobals≠P
 bu:c.H0.BuiltinsAt c.mg P
theorem lQ {M:Model}{A:Around}{E:Value->Shared->Prop}{s:Shared}{env:Env}{c P:Addr}{ps:Array Value}{pos:Pos}{qualname:PySem.Str}{scope:Scope}{Q:Value->Shared->Prop} (hc:env.code = .ref c) (C:CodeHd s.heap c P) (hP:s.heap.get? P=some (tabObj ps)) (ht:TriplesOk ps.toList)
  (hQ:∀ code h' tk ps',Heap.ExtBut P s.heap h'->h'.get? P=some (tabObj ps')->TriplesOk ps'.toList->Q code { s with heap:=h',toks:=tk }):wpAny M A (genexprCode env pos qualname scope) Q E s:=by
 have hok:=C.code hP ht
 have htab:=C.tab hP
 cases hnf:codeAmong pos ps.toList with
 | some cv=>exact wpAny_genexprCode_hit hc hok hnf (hQ cv s.heap s.toks ps (Heap.ExtBut.refl _ _) hP ht)
 | none=>exact wpAny_genexprCodeX hc hok htab hnf fun c' h' tk hx u_ u_ hi u_ ht' u_=>hQ _ h' tk _ hx ht'.2 (by exact rP Array.toList_append (TriplesOk_snoc _ _ _ _ ht))
section
variable {c:Cst}{A:Around}{led:Led}{Q:D->Led->Prop}{a:Addr}{fd:FuncData}
inductive PrAt (Z:HP) (T:Addr) (u:Array Value) (p:PySem.Str×PySem.Str):Prop
 | mk (o:Obj) (t1 t2:Tok):Z T=some o->o.cls = .type "tuple"->(∃ n,o.data = .seq u n)->u = #[.str p.1 t1,.str p.2 t2]->PrAt Z T u p
theorem AV.pair {w:World}{Z:HP}{v:Value}{p:PySem.Str×PySem.Str} (a:AV w Z v (.tup [.str p.1,.str p.2])):∃ Tu:Addr×Array Value,v = .ref Tu.1/\PrAt Z Tu.1 Tu.2 p:=
 a.tup' fun y ws n hy aw=>aw.two' (L:=fun ws=>Z y=some (eY ws n)->_) (fun v u a1 a2=>a1.str' (P:=fun v=>Z y=some (eY [v,u] n)->_) fun t1=>a2.str' (P:=fun u=>Z y=some (eY [_,u] n)->_) fun t2 hy=>⟨(y,_),rfl,_,t1,t2,hy,rfl,⟨n,rfl⟩,rfl⟩) hy
inductive Prs (Z:HP) (ds:List (PySem.Str×PySem.Str)) (vs:List Value):Prop
 | mk (Ts:Nat->Addr) (us:Nat->Array Value):vs.length=ds.length->(∀ j,j<vs.length->vs[j]? = some (.ref (Ts j)))->(∀ j p,ds[j]? = some p->PrAt Z (Ts j) (us j) p)->Prs Z ds vs
theorem AVs.pairs {w:World}{Z:HP}{ds:List (PySem.Str×PySem.Str)}{vs:List Value} (h:AVs w Z vs (ds.map fun p=>.tup [.str p.1,.str p.2])):Prs Z ds vs:=by
 have e1:vs.length=ds.length:=h.length.trans (am _)
 have key:∀ j:Nat,∃ Tu:Addr×Array Value,∀ p,ds[j]? = some p->vs[j]? = some (Value.ref Tu.1)/\PrAt Z Tu.1 Tu.2 p:=fun j=>by
  cases hj:ds[j]? with
  | none=>exact ⟨(0,#[]),fun p e=>nomatch e⟩
  | some p=>
   obtain ⟨v,e,a⟩:=h.get (i:=j) (d:=.tup [.str p.1,.str p.2]) (by exact rP aK (rP hj rfl))
   obtain ⟨Tu,rfl,x⟩:=a.pair
   exact ⟨Tu,fun q e2=>Option.some.inj e2 ▸ ⟨e,x⟩⟩
 obtain ⟨f,hf⟩:=Classical.axiomOfChoice key
 exact ⟨fun j=>(f j).1,fun j=>(f j).2,e1,fun j hj=>(hf j _ (ao (e1 ▸ hj))).1,fun j p e=>(hf j p e).2⟩
theorem wlen {C cl dx x T cc:Addr}{cd:ClassData} (K:dK c C cl cd) (ok:c.Ok) (Bn:Bui c) (hA:Aok A 8) (F:FnAt c a m3len.1 fd) (N:CodAt c fd cc T) (hgf:c.gf=none) (hi:findIn c.K (.ref C) "__iter__" = some (some (.builtin "list.__iter__"))) (hini:findIn c.K (.ref C) mu=some none)
  {ds:List (PySem.Str×PySem.Str)} (hz:∀ p∈ds,p.1.length<=1000/\p.2.length<=1000) (hp:At led x (.pile C dx (ds.map fun p=>.tup [.str p.1,.str p.2]))) (hd:At led dx (.dic [(mu,.int 0)])) (hT:At led T .tabG)
  (h:Q (.int ((ds.map fun p=>((p.1.length:Int)+(p.2.length:Int))).sum)) led):Cc c A (.ref a) [.ref x] led Q:=by
 refine F.call ok hA (F.bind1 (x:=⟨⟨[115,101,108,102]⟩⟩) fun v=>fun u_ u_ u_ u_ u_ u_ u_ u_ u_ u_ u_ u_=>rfl) rfl rfl ?_
 intro L A' hA'
 refine Sto.lo rfl rfl .h ?_
 refine Exs.co (Ex.ret fun Z s r=>?_)
 have hroom:A'.depth<recursionLimit:=by have:=hA'.hd; unfold recursionLimit; lia
 refine rP (arm_eval_Call_Name' _ _ _ _ _ _) ?_
 refine aa (wpAny_Name ?_ (by decide +kernel))
 refine rP (loadName_read (env:=fE fd m3len.1 a L []) rfl rfl) ?_
 refine PySem.Calls.loadGlobal_builtin (ok.g.keeps r.keepH) Bn.sum'.1 (ok.b.keeps r.keepH) Bn.sum'.2 ?_
 refine callWith_of (P:=fun u_=>True) rfl (fun u_ u_=>⟨.machine,.inr (.inl rfl),.now⟩) (jf rfl ?_)
 obtain ⟨vs,n,hox,aw⟩:=r.pile (.t hp)
 obtain ⟨od,hod,hdx⟩:=r.at_ (.t hd)
 obtain ⟨mv,hns,kns⟩:=r.ns .h
 obtain ⟨vself,hself,aself⟩:=kns ⟨⟨[115,101,108,102]⟩⟩ (.ref x) rfl
 obtain ⟨Ts,us,e1,e2,e3⟩:=aw.pairs
 refine aself.val' (P:=fun v=>mv ⟨⟨[115,101,108,102]⟩⟩=some v->_) (fun hself=>?_) hself
 refine wpAny_items_cons ?_
 refine wpAny_GeneratorExp_walksQTD hA'.hh rfl rfl (by decide) (by decide +kernel) rfl rfl (by decide) rfl hroom ?_ (fun u_=>rfl)
 refine wpAny_Name (wpAny_loadName_local (env:=fE fd m3len.1 a L []) rfl rfl hns hself ?_) (by decide +kernel)
 have I0:InstAt s.heap x (bF C dx vs n) C (some od):=⟨hox,rfl,rfl,hod⟩
 refine gN (r.inK ok) I0 hi K.lst ⟨ok.lim.keeps fun b o e=>aT _ (r.keepH _ _ e),?_⟩
 have hIlt:∀ b o,s.heap.get? b=some o->b≠s.heap.objs.size:=fun b o e=>Nat.ne_of_lt (br e)
 obtain ⟨oT,hoT,hTo⟩:=r.at_ (.t hT)
 obtain ⟨ps,rfl,hTt⟩:∃ ps,oT=tabObj ps/\TriplesOk ps.toList:=by induction hTo using Ch.On.eTabG with | tabG a=>exact ⟨_,rfl,a⟩
 have hTd:(tabObj ps).data = .fields ps:=rfl
 have hzT:=r.dis _ (At.t (p:=(L,_)) hT).mem
 have xT:x≠T:=fun e=>by rw [e,hoT] at hox; exact nFS (congrArg Obj.data (Option.some.inj hox))
 have hpush:∀ b o,s.heap.get? b=some o->(s.heap.push { cls:=.type "list_iterator",data:=.fields #[.ref x,.int 0 0] }).get? b=some o:=fun b o e=>aT _ e
 refine lQ (c:=cc) (P:=T) N.code (N.hd.keeps fun b o e=>hpush b o (r.keepH _ _ e)) (hpush _ _ hoT) hTt fun code h₃ tk3 ps' hx₃ ht3 hc3=>?_
 have k3:∀ b o,b≠T->s.heap.get? b=some o->h₃.get? b=some o:=fun b o hb e=>hx₃ b o hb (hpush b o e)
 have kH:∀ b o,c.H0.get? b=some o->h₃.get? b=some o:=fun b o e=>k3 b o (fun q=>by rw [q] at e; rw [r.base _ _ e] at hzT; exact sN hzT) (r.keepH _ _ e)
 obtain ⟨bm,obm,hbm,hne0,_,hneP,hbo,hcls,hdict,hdata⟩:=N.bu
 refine wpAny_builtinsFor (ok.g.keeps kH) hbm hne0 (kH _ _ hbo) hcls hdict hdata ?_
 have hx3:=k3 _ _ xT hox
 have hI3:h₃.IsListIter s.heap.objs.size x 0:=⟨_,hx₃ _ _ (Nat.ne_of_gt (br hoT)) (bj _ rfl),rfl,rfl⟩
 have tups:∀ k,k<vs.length->∃ p t1 t2,ds[k]? = some p/\us k = #[.str p.1 t1,.str p.2 t2]/\(∃ o,s.heap.get? (Ts k)=some o/\o.cls = .type "tuple"/\∃ n,o.data = .seq (us k) n)/\Ts k≠T:=fun k hk=>by
  have hk':k<ds.length:=by refine rQ e1 ?_; exact hk
  obtain ⟨o,t1,t2,g1,g2,g3,g4⟩:=e3 k _ (ao hk')
  exact ⟨_,t1,t2,ao hk',g4,⟨o,r.zin _ _ g1,g2,g3⟩,fun q=>by rw [q,hzT] at g1; exact nS g1⟩
 have htup3:∀ k,k<vs.length->h₃.IsTuple (Ts k) (us k):=fun k hk=>by
  obtain ⟨p,t1,t2,_,_,⟨o,g1,g2,g3⟩,g4⟩:=tups k hk
  exact ⟨o,k3 _ _ g4 g1,g2,g3⟩
 let l:List Int:=ds.map fun p=>((p.1.length:Int)+(p.2.length:Int))
 have hdxT:dx≠T:=fun e=>hdx.inv (P:=fun o=>s.heap.get? dx=some o->False) (fun es n u_ u_ q=>nFD (congrArg Obj.data (Option.some.inj (hoT.symm.trans (e ▸ q))))) hod
 have hLT:L≠T:=fun e=>by
  obtain ⟨oL,es,ep,g1,g2,_⟩:=hns
  exact nFD ((congrArg Obj.data (Option.some.inj (hoT.symm.trans (e ▸ g1)))).trans g2)
 refine ⟨s.heap.objs.size,s.heap.objs.size::x::(List.range vs.length).map Ts,[s.heap.objs.size],vs.length,_,_,_,(fun u_=>true),(fun i y=>∃ t,y = .int (l.getD i 0) t),rfl,
  fun A' hA=>mY hA s.heap.objs.size x (hIlt _ _ hox) C dx vs n Ts us e2 (fun j hj=>by obtain ⟨_,_,_,_,_,⟨o,g1,_⟩,_⟩:=tups j hj; exact hIlt _ _ g1),?_,⟨hI3,hx3,htup3⟩,?_,ok.lim.keeps kH,?_,?_,?_⟩
 ·rintro i vals ⟨hi,rfl⟩
  obtain ⟨p,t1,t2,_,g,_⟩:=tups i hi
  exact ⟨_,_,g⟩
 ·intro b hb
  rcases List.mem_cons.mp hb with rfl | hb
  ·obtain ⟨_,g,_⟩:=hI3; exact br g
  rcases List.mem_cons.mp hb with rfl | hb
  ·exact br hx3
  ·obtain ⟨k,hk,rfl⟩:=List.mem_map.mp hb
   obtain ⟨_,g,_⟩:=htup3 k (List.mem_range.mp hk)
   exact br g
 ·intro hm
  rcases List.mem_cons.mp hm with e | e
  ·obtain ⟨mm,⟨o,_,_,g,_⟩,_⟩:=ok.lim
   exact hIlt _ _ (r.keepH _ _ g) e
  ·exact mN e
 ·intro href hk
  refine ⟨fun A' E' i va vb s₂ m₂ hA hD hU hP hN ha hb hkp=>ab ⟨rfl,s₂.heap,s₂.toks,rfl,fun u_ u_ e=>e⟩,fun A' E' i va vb s₂ m₂ hA hD hU hP u_ hN ha hb hkp=>?_⟩
  obtain ⟨hi,e⟩:=hP
  obtain ⟨p,t1,t2,g1,g2,_⟩:=tups i hi
  rw [g2] at e
  obtain ⟨ea,eb⟩:va = .str p.1 t1/\vb = .str p.2 t2:=by simpa -iota using congrArg Array.toList e
  subst ea eb
  have kH2:∀ b o,c.H0.get? b=some o->s₂.heap.get? b=some o:=fun b o e=>hkp b (List.mem_range.mpr (br (kH _ _ e))) (fun q=>hIlt _ _ (r.keepH _ _ e) (by simpa -iota using q)) o (hk _ _ (kH _ _ e))
  obtain ⟨z1,z2⟩:=hz p (ay g1)
  refine wpAny_BinOp (lenEv rfl rfl rfl (by decide +kernel) (ok.g.keeps kH2) (ok.b.keeps kH2) Bn.len'.1 Bn.len'.2 hN ha (by exact szD z1 rfl) fun ta ka=>?_)
  refine lenEv rfl rfl rfl (by decide +kernel) (ok.g.keeps kH2) (ok.b.keeps kH2) Bn.len'.1 Bn.len'.2 hN hb (by exact szD z2 rfl) fun tb kb=>?_
  have ev:l.getD i 0=(p.1.length:Int)+(p.2.length:Int):=by refine rP aF (rP aK (rP g1 ?_)); rfl
  exact PyProof.Rows.add_int (prog:=c.prog) (w:=c.w) ⟨⟨_,congrArg (fun z=>Value.int z _) ev.symm⟩,s₂.heap,_,rfl,fun u_ u_ e=>e⟩
 ·intro a' h₅ tk5 gs hbare hlt hsz k5 W GA
  replace hsz:h₅.objs.size=a'+1:=hsz
  replace hlt:h₃.objs.size<a':=hlt
  have k5':∀ b o,b≠T->s.heap.get? b=some o->h₅.get? b=some o:=fun b o hb e=>k5 _ _ (k3 _ _ hb e)
  have kH5:∀ b o,c.H0.get? b=some o->h₅.get? b=some o:=fun b o e=>k5 _ _ (kH _ _ e)
  refine wpAny_items_cons (Attribute_any_ (wpAny_Name (wpAny_loadName_local (env:=fE fd m3len.1 a L []) rfl rfl (hns.at' fun o e=>k5' _ _ hLT e) hself ?_) (by decide +kernel)) rfl)
  induction hdx using Ch.On.eDic with
  | @dic es n2 ae hn2=>
  obtain ⟨u,h1,h2⟩:=(ae.getL mu).1 (.int 0) rfl
  obtain ⟨t0,rfl⟩:∃ t,u = .int 0 t:=h2.int' fun t=>⟨t,rfl⟩
  have I5:InstAt h₅ x (bF C dx vs n) C (some (PySem.W.dictOf es n2)):=⟨k5' _ _ xT hox,rfl,rfl,k5' _ _ hdxT hod⟩
  refine get_L (s:=⟨h₅,s.gens.push gs,s.drawn,tk5,s.os⟩) (fun b o e=>kH5 _ _ (ok.k b o e)) I5 K.ga K.gh K.lst (findObj_own K.hd hini rfl h1) rfl (wpAny_items_nil ⟨trivial,?_⟩)
  have W1:=W.in4_1
  have GA':=W1.frame 0 _ h₅ (tk5+1) GA (Nat.le_succ _) fun u_ u_ u_ e=>e
  have hpl:(passing (fun u_=>true) vs.length 0)=List.range vs.length:=by simp -iota [passing]
  refine sum2 (W1.self 0 _ _ _ GA' ⟨a',_,_,_,_,_,_,fun i=>l.getD i 0,rfl,W1,GA',?_,?_,fun s' t' hm=>?_⟩)
  ·intro b hb
   refine (?_:b<h₅.objs.size)
   refine rP hsz ?_
   rcases List.mem_cons.mp hb with e | hb
   ·refine rP e ?_; exact Nat.lt_succ_self _
   rcases List.mem_cons.mp hb with e | hb
   ·refine rP e ?_; exact Nat.lt_succ_of_lt hlt
   ·exact Nat.lt_succ_of_lt (Nat.lt_trans (List.mem_range.mp hb) hlt)
  ·rintro j v ⟨i,hi,t,rfl⟩
   rw [hpl,List.getElem?_range] at hi
   ·cases hi; exact ⟨t,rfl⟩
   ·rcases Nat.lt_or_ge j vs.length with q | q
    ·exact q
    ·rw [List.getElem?_eq_none (by simpa -iota using q)] at hi; exact nS hi
  ·have e:preSum (fun i=>l.getD i 0) (passing (fun u_=>true) vs.length 0).length=l.sum:=by
    rw [preSum_getD,hpl,aM,List.take_of_length_le]
    refine (?_:(ds.map _).length<=_)
    refine rP (am _) (rP e1 ?_); exact aC _
   refine rP e ?_
   have hwr:∀ b,b<s.heap.objs.size->b ∉ h₃.objs.size::[s.heap.objs.size]:=fun b hb hm=>by
    rcases List.mem_cons.mp hm with e | hm
    ·have e':b=h₃.objs.size:=e
     have:s.heap.objs.size<h₃.objs.size:=br (hI3.choose_spec.1)
     exact aN (nT hb (nL this)) (aq e'.symm)
    rcases List.mem_cons.mp hm with e | hm
    ·exact aN hb (aq e.symm)
    ·exact mN hm
   have gk:c.gok s'.gens:=⟨AllBare.movedS (AllBare.push r.gens.1 hbare) hm,fun G' e=>by rw [hgf] at e; exact nS e⟩
   refine mk1 (r.moved (.t hT) (fun b o hb e=>hm.heap b o (hwr b (br e)) (k5' b o hb e)) ?_ gk hm.os) .int ⟨_,.drop .rest,h⟩
   exact ⟨ps',hm.heap T _ (hwr T (br hoT)) (k5 _ _ ht3),hc3⟩
end
end
section
section
variable {prog:Program}{w:World}{A:Around}{R:GenEnd}{Y:Protocol}{n:Nat}{s0:Shared}{c:Code}{fs:List PySem.Frame}{s:Shared}{env:Env}
 {K:Flow->Sem Fin}{H:Value->Sem Fin}{gd:Bool->Bool}{lv:List Value->List Value}
noncomputable abbrev noted (env:Env) (e:Value):Sem Fin:=(do noteFrame e env; theTreesLotGoes e:Sem Unit).wrap (fun u_=>.raise e) .raise id id
noncomputable abbrev ownK (env:Env) (K:Flow->Sem Fin) (H:Value->Sem Fin) (gd:Bool->Bool) (lv:List Value->List Value) (r:Result):Sem Fin:=
 ((match r with | .ok f=>(.pure f:Sem Flow) | .error e=>.raise e).onRaise fun (x:Value)=>do
    if (<- field x 1) == Value.none then unsupported "frame.own-activation:exception-without-traceback"
    setFlight x env.frame).wrap K H gd lv
theorem mZ {target iter:Expr}{body orelse:List Stmt}{pos:Pos} (hs:∀ x,foldedSetIterable iter env x=pure x)
  (h:wpAny (model prog w) (A.over c fs) (eval iter env) (fun x s₁=>wpAny (model prog w) (A.over c fs) (pyIter x) (fun it s₂=>∀ p,
   Seg (model prog w) A R Y n s0 (.forLoop target it body orelse env) ((model prog w).den (.forLoop target it body orelse env)) (.ret (ownK env K H gd lv) none (gd false) (lv []) c p []::fs) s₂)
    (fun x s'=>Seg (model prog w) A R Y n s0 c (H x) fs s') s₁) (fun x s'=>Seg (model prog w) A R Y n s0 c (H x) fs s') s) :
  Seg (model prog w) A R Y n s0 c ((exec (.For target iter body orelse pos) env).wrap K H gd lv) fs s:=by
 refine rP (exec_For _ _ _ _ _) ?_
 refine seg_at ?_
 refine (?_:Seg (model prog w) A R Y n s0 c ((eval iter env >>= fun x0=>(foldedSetIterable iter env x0 >>= fun x=>(standAt iter.pos >>= fun u_=>(holding [x] (pyIter x) >>= fun it=>runOwn (.forLoop target it body orelse env) env)))).wrap K H gd lv) fs s)
 refine rP (Sem.bind_eq_wrap' _ _) (rP (Sem.wrap_wrap _ _ _ _ _ _ _ _ _) ?_)
 refine seg_wrap (ac h (fun x s₁ h₁=>?_) fun u_ u_ e=>e)
 refine rP (hs _) ?_
 refine (?_:Seg (model prog w) A R Y n s0 c ((standAt iter.pos >>= fun u_=>(holding [x] (pyIter x) >>= fun it=>runOwn (.forLoop target it body orelse env) env)).wrap K H gd lv) fs s₁)
 refine seg_at ?_
 refine (?_:Seg (model prog w) A R Y n s0 c ((holding [x] (pyIter x) >>= fun it=>runOwn (.forLoop target it body orelse env) env).wrap K H gd lv) fs s₁)
 refine rP (Sem.bind_eq_wrap' _ _) (rP (Sem.wrap_wrap _ _ _ _ _ _ _ _ _) ?_)
 refine seg_wrap (aV (ac h₁ (fun it s₂ h₂=>?_) fun u_ u_ e=>e))
 exact seg_call h₂
theorem fM {target:Expr}{it:Value}{body orelse:List Stmt}
  (h:wpAny (model prog w) (A.over (.forLoop target it body orelse env) fs) (pyNext it) (fun r s₁=>match r with
    | none=>Seg (model prog w) A R Y n s0 (.block orelse env) ((model prog w).den (.block orelse env)) fs s₁
    | some v=>wpAny (model prog w) (A.over (.forLoop target it body orelse env) fs) (letOwnedTupleGo target it v) (fun u_ s₂=>
     wpAny (model prog w) (A.over (.forLoop target it body orelse env) fs) (assign target env v) (fun u_ s₃=>
      Seg (model prog w) A R Y n s0 (.forLoop target it body orelse env) ((execs body env).wrap (fun f=>match f with
       | .next | .cont=>.pure (.again (.forLoop target it body orelse env))
       | .brk=>.pure (.done .next)
       | .ret v=>.pure (.done (.ret v))) (noted env) id id) fs s₃) noE s₂) noE s₁) noE s) :
  Seg (model prog w) A R Y n s0 (.forLoop target it body orelse env) ((model prog w).den (.forLoop target it body orelse env)) fs s:=by
 refine (?_:Seg _ A R Y n s0 _ ((forTurn target it body orelse env).onRaise (fun x=>do noteFrame x env; theTreesLotGoes x)) fs s)
 unfold forTurn
 refine rP (Sem.onRaise_eq_wrap _ _) ?_
 refine seg_at ?_
 show Seg (model prog w) A R Y n s0 _ (((pyNext it).onRaise (fun u_=>standAt { target.pos with line:=0 }) >>= fun r=>match r with
  | none=>again (.block orelse env)
  | some v=>(letOwnedTupleGo target it v >>= fun u_=>(assign target env v >>= fun u_=>(execs body env >>= fun f=>match f with
   | .next | .cont=>again (.forLoop target it body orelse env)
   | .brk=>pure (.done .next)
   | .ret v=>pure (.done (.ret v)))))).wrap .pure (fun e=>(do noteFrame e env; theTreesLotGoes e:Sem Unit).bind fun u_=>.raise e) id id) fs s
 refine rP (Sem.bind_eq_wrap' _ _) (rP (Sem.wrap_wrap _ _ _ _ _ _ _ _ _) (rP (Sem.onRaise_eq_wrap _ _) (rP (Sem.wrap_wrap _ _ _ _ _ _ _ _ _) ?_)))
 refine seg_wrap (ac h (fun r s₁ h₁=>?_) fun u_ u_ e=>e.elim)
 induction r with
 | none=>exact seg_again rfl h₁
 | some v=>
  show Seg (model prog w) A R Y n s0 _ ((letOwnedTupleGo target it v >>= fun u_=>(assign target env v >>= fun u_=>(execs body env >>= fun f=>match f with
   | .next | .cont=>again (.forLoop target it body orelse env)
   | .brk=>pure (.done .next)
   | .ret v=>pure (.done (.ret v))))).wrap .pure (fun e=>(do noteFrame e env; theTreesLotGoes e:Sem Unit).bind fun u_=>.raise e) id id) fs s₁
  refine rP (Sem.bind_eq_wrap' _ _) (rP (Sem.wrap_wrap _ _ _ _ _ _ _ _ _) ?_)
  refine seg_wrap (ac h₁ (fun u_ s₂ h₂=>?_) fun u_ u_ e=>e.elim)
  show Seg (model prog w) A R Y n s0 _ ((assign target env v >>= fun u_=>(execs body env >>= fun f=>match f with
   | .next | .cont=>again (.forLoop target it body orelse env)
   | .brk=>pure (.done .next)
   | .ret v=>pure (.done (.ret v)))).wrap .pure (fun e=>(do noteFrame e env; theTreesLotGoes e:Sem Unit).bind fun u_=>.raise e) id id) fs s₂
  refine rP (Sem.bind_eq_wrap' _ _) (rP (Sem.wrap_wrap _ _ _ _ _ _ _ _ _) ?_)
  refine seg_wrap (ac h₂ (fun u_ s₃ h₃=>?_) fun u_ u_ e=>e.elim)
  show Seg (model prog w) A R Y n s0 _ ((execs body env >>= fun f=>match f with
   | .next | .cont=>again (.forLoop target it body orelse env)
   | .brk=>pure (.done .next)
   | .ret v=>pure (.done (.ret v))).wrap .pure (fun e=>(do noteFrame e env; theTreesLotGoes e:Sem Unit).bind fun u_=>.raise e) id id) fs s₃
  refine rP (Sem.bind_eq_wrap' _ _) (rP (Sem.wrap_wrap _ _ _ _ _ _ _ _ _) ?_)
  refine Eq.mpr (congrArg (fun t=>Seg (model prog w) A R Y n s0 (.forLoop target it body orelse env) t fs s₃) (Sem.wrap_congr (execs body env) id id (fun f=>?_) (fun e=>?_))) h₃
  ·cases f <;> rfl
  ·exact Sem.bind_eq_wrap _ _
end
end
section
set_option tactic.hygienic true
noncomputable def D.flat:D->Bool
 | .none=>true
 | .bool _=>true
 | .int _=>true
 | .str _=>true
 | .val _=>true
 | _=>false
noncomputable abbrev HP.nil:HP:=fun u_=>none
theorem HP.nil_le {Z:HP}:HP.nil.le Z:=fun u_ u_ h=>by exact nS h
theorem AV.flat {w:World}{Z Z':HP}{v:Value}{d:D} (hd:d.flat=true) (a:AV w Z v d):AV w Z' v d:=by
 refine a.inv (P:=fun v=>AV w Z' v d) ?_
 cases d <;> first | exact AV.none | exact AV.bool | exact fun u_=>.int | exact fun u_=>.str | exact AV.val | exact fT hd
noncomputable def flatM (m:List (Str×D)):Prop:=∀ x d,m.lookup x=some d->d.flat=true
theorem flatM.nil:flatM []:=fun x d h=>by exact nS h
theorem flatM.cons {x:Str}{d:D}{m:List (Str×D)} (hd:d.flat=true) (h:flatM m):flatM ((x,d)::m):=fun y e q=>by
 rw [aS] at q
 split at q
 ·cases q; exact hd
 ·exact h y e q
theorem Ch.On.flatNs {w:World}{Z Z':HP}{m:List (Str×D)}{o:Obj} (hm:flatM m) (h:Ch.On w Z (.ns m) o):Ch.On w Z' (.ns m) o:=by
 induction h using Ch.On.eNs with
 | ns h1 h2 h3 h4=>exact .ns h1 h2 h3 fun x d e=>let ⟨v,e1,a⟩:=h4 x d e; ⟨v,e1,a.flat (hm x d e)⟩
theorem Ch.On.flatIt {w:World}{Z Z':HP}{l:Addr}{k:Nat}{o:Obj} (h:Ch.On w Z (.itL l k) o):Ch.On w Z' (.itL l k) o:=by
 induction h using Ch.On.eItL with
 | itL h1 h2=>exact .itL h1 h2
noncomputable def less (h:Heap) (a b:Addr):Heap:={ h with objs:=(h.objs.setIfInBounds a { cls:=.none,data:=.freed }).setIfInBounds b { cls:=.none,data:=.freed } }
theorem nf {h:Heap}{a c:Addr}:({ h with objs:=h.objs.setIfInBounds a { cls:=.none,data:=.freed } }:Heap).get? c=if c=a then none else h.get? c:=by
 unfold Heap.get?
 dsimp only
 refine rP Array.getElem?_setIfInBounds ?_
 by_cases e:a=c
 ·subst e
  refine rP (aY rfl) (rP (aY rfl) ?_)
  split
  ·rename_i h1; split at h1 <;> first | rfl | cases h1
  ·rename_i h1 h2
   split
   ·exact absurd ‹_› (by rename_i h3; intro; exact h2 _ _ _ (by exact rP (aY h3) rfl))
   ·rfl
 ·exact rP (aX e) (rP (aX (fun x=>e x.symm)) rfl)
theorem bV {h:Heap}{a b c:Addr}:(less h a b).get? c=if c=b then none else if c=a then none else h.get? c:=by
 unfold less
 refine (nf (h:={ h with objs:=h.objs.setIfInBounds a { cls:=.none,data:=.freed } }) (a:=b) (c:=c)).trans ?_
 exact rP nf rfl
noncomputable def Cst.on (c:Cst) (h:Heap) (G:Array GenState):Cst:={ c with H0:=h,gf:=some G }
variable {c:Cst}{Z:HP}{led:Led}{s:Shared}
theorem Cst.Ok.on (ok:c.Ok){h:Heap}{G:Array GenState} (k:∀ b o,c.H0.get? b=some o->h.get? b=some o):(c.on h G).Ok where
 g:=ok.g.keeps k
 b:=ok.b.keeps k
 lim:=ok.lim.keeps k
 sm:=let ⟨o,e⟩:=ok.sm; ⟨o,k _ _ e⟩
 k:=ok.k.keeps k
theorem jw (r:R c Z led s){C I:Addr} (hC:Z C=none) (hI:Z I=none):∀ b o,c.H0.get? b=some o->(less s.heap C I).get? b=some o:=fun b o e=>by
 have h1:=r.base b o e
 have h2:=r.zin b o h1
 refine rP bV (rP (aX (by rintro rfl; rw [hI] at h1; exact nS h1)) (rP (aX (by rintro rfl; rw [hC] at h1; exact nS h1)) ?_))
 exact h2
noncomputable def GR (c:Cst) (C I:Addr) (led:Led) (s:Shared):Prop:=R (c.on (less s.heap C I) s.gens) (less s.heap C I).get? led s
theorem GR.of (r:R c Z led s){C I:Addr} (hC:Z C=none) (hI:Z I=none){led':Led} (ho:∀ p∈led',(p.1=C\/p.1=I)/\∃ o,s.heap.get? p.1=some o/\p.2.On c.w HP.nil o) (hn:(led'.map (·.1)).Nodup):GR c C I led' s where
 base:=fun u_ u_ e=>e
 zin:=fun a o e=>by
  rw [bV] at e
  split at e
  ·exact nS e
  ·split at e
   ·exact nS e
   ·exact e
 on:=fun p hp=>let ⟨_,o,e,h⟩:=ho p hp; ⟨o,e,h.mono HP.nil_le⟩
 dis:=fun p hp=>by
  refine rP bV ?_
  rcases (ho p hp).1 with h | h
  ·refine rP h ?_; split <;> simp -iota
  ·exact rP h (rP (aY rfl) rfl)
 nod:=hn
 gens:=⟨r.gens.1,fun G' e=>by cases e; rfl⟩
 os:=r.os
end
section
section
variable {c:Cst}{A:Around}{env:Env}{led led':Led}{Z:HP}{s:Shared}
theorem nextH {l I:Addr}{vs:List Value}{n k:Nat}{v:Value}{Q:Option Value->Shared->Prop}{E:Value->Shared->Prop} (hl:c.H0.get? l=some (ci vs n)) (u:Up led I (.itL l k) (.itL l (k+1)) led') (hv:vs[k]? = some v) (r:R c Z led s)
  (h:∀ s',R c Z led' s'->(∃ o',s'.heap.get? I=some o'/\o'.cls = .type "list_iterator")->Q (some v) s'):wpAny c.M A (pyNext (.ref I)) Q E s:=by
 obtain ⟨o,ho,hx⟩:=r.at_ u.at
 have hol:=r.zin _ _ (r.base _ _ hl)
 cases hx using Ch.On.eItL with
 | itL h1 h2=>
  refine wpAny_pyNext_list_item ⟨o,ho,h1,h2⟩ (bx hol) (by simpa using hv) fun h' hit hs=>?_
  obtain ⟨o',ho',hc',hd'⟩:=hit
  exact h _ (r.turn (t:=s.toks) u hs ho' (.itL hc' hd')) ⟨o',ho',hc'⟩
theorem iterH {l:Addr}{vs:List Value}{n:Nat}{Q:Value->Shared->Prop}{E:Value->Shared->Prop} (hl:c.H0.get? l=some (ci vs n)) (r:R c Z led s)
  (h:R c Z ((s.heap.objs.size,.itL l 0)::led) { s with heap:=s.heap.push (cw "list_iterator" [.ref l,.int 0 0]) }->Q (.ref s.heap.objs.size) { s with heap:=s.heap.push (cw "list_iterator" [.ref l,.int 0 0]) }):wpAny c.M A (pyIter (.ref l)) Q E s:=by
 have hol:=r.zin _ _ (r.base _ _ hl)
 exact wpAny_pyIter_list (bx hol) (h (r.push (o:=cw "list_iterator" [.ref l,.int 0 0]) (x:=.itL l 0) (Ch.On.itL (k:=0) rfl rfl)))
end
inductive GS where
 | start
 | at (k:Nat) (iv:Int)
 | loop (x:Int)
noncomputable def lR (row:List Int) (k:Nat) (last:Option Int):Option (Int×GS):=
 match row[k]? with
 | none=>none
 | some x=>if x=127 then none else if x=0 then last.map fun y=>(y,.loop y) else some (x,.at (k+1) x)
noncomputable def bY (row:List Int):GS->Option (Int×GS)
 | .start=>lR row 0 none
 | .at k iv=>lR row k (some iv)
 | .loop x=>some (x,.loop x)
noncomputable def gst (row:List Int):Nat->Option GS
 | 0=>some .start
 | j+1=>((gst row j).bind (bY row)).map (·.2)
noncomputable abbrev sIv:Str:=⟨⟨[105,110,116,101,114,118,97,108]⟩⟩
noncomputable abbrev sLa:Str:=⟨⟨[108,97,115,116,95,105,110,116,101,114,118,97,108]⟩⟩
noncomputable abbrev sGr:Str:=⟨⟨[103,114,111,117,112,105,110,103]⟩⟩
noncomputable def mOf:GS->List (Str×D)
 | .start=>[]
 | .at _ iv=>[(sIv,.int iv)]
 | .loop x=>[(sLa,.int x)]
noncomputable def okIx:GS->Nat->Prop
 | .start,_=>False
 | .at k _,j=>j=k
 | .loop _,_=>True
noncomputable def lastD:Option Int->D
 | none=>.none
 | some x=>.int x
noncomputable def Kept (C I:Addr) (s0 s₁:Shared):Prop:=(∀ a o,a≠C->a≠I->s0.heap.get? a=some o->s₁.heap.get? a=some o)/\s₁.gens=s0.gens/\s₁.os=s0.os
section
variable (c:Cst) (row:List Int) (C I l:Addr) (vs:List Value) (nn:Nat)
noncomputable def GOn (st:GS) (s:Shared):Prop:=(∃ o,s.heap.get? C=some o/\Ch.On c.w HP.nil (.ns (mOf st)) o)/\∃ k,okIx st k/\∃ o,s.heap.get? I=some o/\Ch.On c.w HP.nil (.itL l k) o
structure lT (st:GS) (s:Shared):Prop where
 ne:C≠I
 lc:l≠C
 li:l≠I
 ok:(c.on (less s.heap C I) s.gens).Ok
 r:∃ k,okIx st k/\GR c C I [(I,.itL l k),(C,.ns (mOf st))] s
 l:s.heap.get? l=some (ci vs nn)
noncomputable def YG:Protocol:=fun n s0 v s₁ kap=>∃ x t st',((gst row (4 - n)).bind (bY row))=some (x,st')/\v = .int x t/\Kept C I s0 s₁/\GOn c C I l st' s₁/\(2<=n->∀ s₂,lT c C I l vs nn st' s₂->kap (.send .none) s₂)
noncomputable def PG:Nat->Shared->Shared->Prop:=fun n s0 s₁=>((gst row (5 - n)).bind (bY row))=none/\Kept C I s0 s₁
noncomputable def RG:GenEnd:=fun n s0 r s₁=>r = .ok (.ret .none)/\PG row C I n s0 s₁
end
section
variable {c:Cst}{A:Around}{R':GenEnd}{Y:Protocol}{n:Nat}{s0:Shared}{cd:Code}{fs:List PySem.Frame}{s:Shared}{env:Env}{Z:HP}{led:Led}
 {K:Flow->Sem Fin}{H:Value->Sem Fin}{gd:Bool->Bool}{lv:List Value->List Value}
theorem ng {st:Stmt}{Q:Fl->Led->Prop} (h:Ex c (A.over cd fs) env st led Q) (r:R c Z led s) (k:∀ Z' led' s' f g,Z.le Z'->R c Z' led' s'->FlR c.w Z' f g->Q g led'->Seg c.M A R' Y n s0 cd (K f) fs s') :
  Seg c.M A R' Y n s0 cd ((exec st env).wrap K H gd lv) fs s:=
 seg_wrap (je (h Z s r) fun Z' led' s' f g h1 r1 a1 q1=>k Z' led' s' f g h1 r1 a1 q1)
theorem nh {t:Expr}{b o:List Stmt}{pos:Pos}{Q:Bool->Led->Prop} (h:Tst c (A.over cd fs) env t led Q) (r:R c Z led s)
  (k:∀ Z' led' s' x,Z.le Z'->R c Z' led' s'->Q x led'->Seg c.M A R' Y n s0 cd ((execs (if x=true then b else o) env).wrap K H gd lv) fs s') :
  Seg c.M A R' Y n s0 cd ((exec (.If t b o pos) env).wrap K H gd lv) fs s:=by
 refine rP (exec_If _ _ _ _ _) ?_
 refine seg_at ?_
 refine (?_:Seg c.M A R' Y n s0 cd ((isTrue t env (eval t env) >>= fun x=>if x=true then execs b env else execs o env).wrap K H gd lv) fs s)
 refine rP (Sem.bind_eq_wrap' _ _) (rP (Sem.wrap_wrap _ _ _ _ _ _ _ _ _) ?_)
 refine seg_wrap (fo (h Z s r) fun Z' led' s' x h1 r1 q1=>?_)
 have:=k Z' led' s' x h1 r1 q1
 cases x <;> exact this
end
end
section
noncomputable def ni (s:Stmt):List Stmt:=
 if h:s.ctorIdx=9 then Stmt.For.elim (motive_2:=fun u_=>List Stmt) s h (fun u_ u_ b u_ u_=>b) else []
noncomputable def t06b:{ t:List Stmt // t=ni (t06.1.body.getD 1 (.Pass ⟨0,0,0,0⟩)) }:=by
 refine ⟨?a,?h⟩
 case h=>conv=>rhs; reduce
noncomputable abbrev sCM:Str:=⟨⟨[67,72,65,82,95,77,65,88]⟩⟩
section
variable {c:Cst}{A:Around}{row:List Int}{C I l:Addr}{vs:List Value}{nn:Nat}{fd:FuncData}{a:Addr}
noncomputable abbrev gK0:Flow->Sem Fin:=fun f=>.pure (.done (.ret (match f with | .ret v=>v | _=>.none)))
noncomputable abbrev gH0 (env:Env):Value->Sem Fin:=fun e=>(leaving env e).wrap (fun u_=>.raise e) .raise id id
noncomputable abbrev gK1 (env:Env):Flow->Sem Fin:=fun f=>match f with | .next=>(execs [] env).wrap gK0 (gH0 env) id id | f=>gK0 f
noncomputable abbrev gE (fd:FuncData) (a C:Addr):Env:=fE fd t06.1 a C []
noncomputable abbrev gLoop (fd:FuncData) (a C I:Addr):Code:=.forLoop (.Name sIv ⟨41,8,41,16⟩) (.ref I) t06b.1 [] (gE fd a C)
noncomputable abbrev gFr (fd:FuncData) (a C:Addr) (p:Pos):PySem.Frame:=.ret (ownK (gE fd a C) (gK1 (gE fd a C)) (gH0 (gE fd a C)) id id) none (id false) (id []) (.func t06.1.body (gE fd a C)) p []
noncomputable abbrev gKL (fd:FuncData) (a C I:Addr):Flow->Sem Fin:=fun f=>match f with
       | .next | .cont=>.pure (.again (gLoop fd a C I))
       | .brk=>.pure (.done .next)
       | .ret v=>.pure (.done (.ret v))
theorem gret {R':GenEnd}{Y:Protocol}{n:Nat}{s0 s:Shared}{v:Value}{p:Pos} (h:R' n s0 (.ok (.ret v)) s):Seg c.M A R' Y n s0 (gLoop fd a C I) (gKL fd a C I (.ret v)) [gFr fd a C p] s:=
 seg_leaf (.ok (.ret v)) (seg_end (.ok (.ret v)) h)
structure GAt (c:Cst) (row:List Int) (C I l:Addr) (vs:List Value) (nn:Nat) (n:Nat) (s0 s:Shared) (k:Nat) (last:Option Int) (m:List (Str×D)) (Z:HP):Prop where
 ok:(c.on (less s0.heap C I) s0.gens).Ok
 ne:C≠I
 lc:l≠C
 li:l≠I
 hl:s0.heap.get? l=some (ci vs nn)
 r:R (c.on (less s0.heap C I) s0.gens) Z [(I,.itL l k),(C,.ns m)] s
 m:m.lookup sLa=some (lastD last)
 h:((gst row (5 - n)).bind (bY row))=lR row k last
 k:k<=5 - n
theorem GAt.keptR {h:Heap}{G:Array GenState}{Z:HP}{led:Led}{s0 s:Shared} (r:R (c.on (less s0.heap C I) s0.gens) Z led s) (ho:s0.os=c.os0):Kept C I s0 s:=
 ⟨fun a o h1 h2 e=>r.zin _ _ (r.base a o (by refine rP (show (c.on (less s0.heap C I) s0.gens).H0=less s0.heap C I from rfl) (rP bV (rP (aX h2) (rP (aX h1) ?_))); exact e)),r.gens.2 _ rfl,r.os.trans ho.symm⟩
theorem gon {Z:HP}{led:Led}{s0 s:Shared}{m:List (Str×D)}{k:Nat}{st:GS} (r:R (c.on (less s0.heap C I) s0.gens) Z [(I,.itL l k),(C,.ns m)] s) (hk:okIx st k) (hm:∀ p∈mOf st,m.lookup p.1=some p.2) (hf:flatM (mOf st)):GOn c C I l st s:=by
 obtain ⟨o1,e1,a1⟩:=r.at_ (.t .h)
 obtain ⟨o2,e2,a2⟩:=r.at_ .h
 exact ⟨⟨o1,e1,(a1.less (.all hm)).flatNs hf⟩,k,hk,o2,e2,a2.flatIt⟩
noncomputable abbrev gWBody:List Stmt:=[.Expr (.Yield (some (.Name sLa ⟨48,22,48,35⟩)) ⟨48,16,48,35⟩) ⟨48,16,48,35⟩]
noncomputable abbrev gWhile (fd:FuncData) (a C:Addr):Code:=.whileLoop (.Constant (.bool true) 0 ⟨47,18,47,22⟩) gWBody [] (gE fd a C)
theorem gwhile {y:Int}{fs:List PySem.Frame} (hfs:splitAtGen fs=none) (hfg:fs.any Frame.guarded=false) :
  ∀ n,2<=n->n<=5->∀ s0 s k m Z,(c.on (less s0.heap C I) s0.gens).Ok->R (c.on (less s0.heap C I) s0.gens) Z [(I,.itL l k),(C,.ns m)] s->m.lookup sLa=some (.int y)->((gst row (5 - n)).bind (bY row))=some (y,.loop y)->s0.os=c.os0->
   Seg c.M A (RG row C I) (YG c row C I l vs nn) n s0 (gWhile fd a C) (c.M.den (gWhile fd a C)) fs s:=by
 intro n
 induction n with
 | zero=>intro h; exact (aN (by decide) h).elim
 | succ n ih=>
 intro hn hn5 s0 s k m Z ok r hm hg hos
 refine seg_whileLoop  (fo (c:=c.on (less s0.heap C I) s0.gens) ((Tst.val (c:=c.on (less s0.heap C I) s0.gens) (env:=gE fd a C) rfl (Ev.cbool (Tru.bl ⟨rfl,rfl⟩)):Tst _ _ _ _ _ (fun b l'=>b=true/\l'=[(I,.itL l k),(C,.ns m)])) Z s r) fun Z1 led₁ s₁ b h1 r1 q1=>?_)
 obtain ⟨rfl,rfl⟩:=q1
 refine ifT rfl ?_
 refine seg_execs_cons (seg_Expr_Yield hfs rfl hfg  (bD (c:=c.on (less s0.heap C I) s0.gens) ((Ev.lo (c:=c.on (less s0.heap C I) s0.gens) (env:=gE fd a C) rfl rfl (.t .h) hm rfl ⟨rfl,rfl⟩:Ev _ _ _ _ _ (fun d l'=>d = .int y/\l'=[(I,.itL l k),(C,.ns m)])) Z1 s₁ r1) fun Z₂ led₂ s₂ v d h2 r2 a2 q2=>?_))
 obtain ⟨rfl,rfl⟩:=q2
 cases a2 using AV.eInt
 intro kap hkap
 have e45:5 - (n+1)=4 - n:=Nat.succ_sub_succ 4 n
 rw [e45] at hg
 refine ⟨y,_,.loop y,hg,rfl,GAt.keptR (h:=s.heap) (G:=s.gens) r2 hos,gon (led:=[]) r2 trivial (fun p hp=>?_) (.cons rfl .nil),fun h2n s₃ gb=>hkap .none s₃ ?_⟩
 ·refine rP (List.mem_singleton.mp hp) ?_; exact hm
 ·obtain ⟨k3,_,r3⟩:=gb.r
  refine seg_execs_nil (seg_again rfl (ih h2n (by exact nL hn5) s₃ s₃ k3 _ _ gb.ok r3 rfl ?_ r3.os))
  refine rP (show 5 - n=(4 - n)+1 by exact sc5 hn5) ?_
  refine (?_:((((gst row (4 - n)).bind (bY row)).map (·.2)).bind (bY row))=_)
  refine rP hg ?_; rfl
theorem gloop (cm:∃ t,c.mg sCM=some (.int 127 t)) (hvs:∃ xs:List (Int×Tok),vs=xs.map (fun p=>.int p.1 p.2)/\xs.map (·.1)=row) (h4:row.length=4) (h0:row[0]?≠some 0) :
  ∀ n,2<=n->n<=5->∀ s0 s k last m Z p,GAt c row C I l vs nn n s0 s k last m Z->s0.os=c.os0->(last=none->k=0)->
   Seg c.M A (RG row C I) (YG c row C I l vs nn) n s0 (gLoop fd a C I) (c.M.den (gLoop fd a C I)) [gFr fd a C p] s:=by
 intro n
 induction n with
 | zero=>intro h; exact (aN (by decide) h).elim
 | succ n ih=>
 intro hn hn5 s0 s k last m Z p g hos hl0
 obtain ⟨xs,rfl,hxs⟩:=hvs
 have hk:k<4:=by have:=g.k; omega
 obtain ⟨x,t,hx,hrow⟩:∃ x t,(xs.map fun p=>Value.int p.1 p.2)[k]? = some (.int x t)/\row[k]? = some x:=by
  have hl:xs.length=4:=by exact rQ h4 (rQ hxs (rP (am _) rfl))
  refine ⟨(xs[k]'(by exact nT hk (aq hl.symm))).1,(xs[k]'(by exact nT hk (aq hl.symm))).2,?_,?_⟩
  ·refine rP aK (rP (ao (by exact nT hk (aq hl.symm))) ?_); rfl
  ·refine rQ hxs (rP aK (rP (ao (by exact nT hk (aq hl.symm))) ?_)); rfl
 have hg:=g.h
 unfold lR at hg
 rw [hrow] at hg
 dsimp only at hg
 have hlH:(c.on (less s0.heap C I) s0.gens).H0.get? l=some (ci (xs.map fun p=>Value.int p.1 p.2) nn):=by
  refine (?_:(less s0.heap C I).get? l=_)
  refine rP bV (rP (aX g.li) (rP (aX g.lc) ?_)); exact g.hl
 refine fM (nextH (c:=c.on (less s0.heap C I) s0.gens) hlH .h hx g.r fun s' r' ⟨o',ho',hc'⟩=>cp (c:=c) ho' hc' rfl ?_)
 refine fq (c:=c.on (less s0.heap C I) s0.gens) ((Asg.lo (c:=c.on (less s0.heap C I) s0.gens) (env:=gE fd a C) (x:=sIv) (pos:=⟨41,8,41,16⟩) (d:=.int x) rfl rfl (.t .h) rfl:Asg _ _ _ _ _ _ (fun l'=>l'=[(I,.itL l (k+1)),(C,.ns ((sIv,.int x)::m))])) Z s' (.int x t) r' .int) fun Z1 led₁ s₁ hz1 r1 q1=>?_
 subst q1
 have hmL:((sIv,D.int x)::m).lookup sLa=some (lastD last):=g.m
 refine seg_execs_cons (nh (c:=c.on (less s0.heap C I) s0.gens) (Q:=fun b l'=>b=(x == 127)/\l'=[(I,.itL l (k+1)),(C,.ns ((sIv,.int x)::m))]) (Tst.cmp rfl (Ev.lo rfl rfl (.t .h) rfl rfl (Ev.gloI g.ok rfl rfl rfl cm.choose_spec rfl (Cmp.eqI ⟨_,rfl,rfl,rfl⟩)))) r1 ?_)
 rintro Z₂ led₂ s₂ b hz2 r2 ⟨rfl,rfl⟩
 by_cases e1:x=127
 ·rw [aY e1] at hg
  refine rP (aY (by rw [e1]; rfl)) ?_
  refine seg_execs_cons (ng (c:=c.on (less s0.heap C I) s0.gens) (Q:=fun f l'=>f = .ret .none/\l'=[(I,.itL l (k+1)),(C,.ns ((sIv,.int x)::m))]) (Ex.ret0 ⟨rfl,rfl⟩) r2 ?_)
  rintro Z3 led3 s₃ f gg hz3 r3 a3 ⟨rfl,rfl⟩
  cases a3 with
  | ret a3=>
  cases a3 using AV.eNone
  exact gret ⟨rfl,hg,GAt.keptR (h:=s.heap) (G:=s.gens) r3 hos⟩
 rw [aX e1] at hg
 refine rP (aX (by rw [beq_iff_eq]; exact e1)) ?_
 refine seg_execs_nil ?_
 refine seg_execs_cons (nh (c:=c.on (less s0.heap C I) s0.gens) (Q:=fun b l'=>b=(x == 0)/\l'=[(I,.itL l (k+1)),(C,.ns ((sIv,.int x)::m))]) (Tst.cmp rfl (Ev.lo rfl rfl (.t .h) rfl rfl (Ev.cn 0 (Cmp.eqI ⟨_,rfl,rfl,rfl⟩)))) r2 ?_)
 rintro Z3 led3 s₃ b hz3 r3 ⟨rfl,rfl⟩
 by_cases e2:x=0
 ·rw [aY e2] at hg
  refine rP (aY (by rw [e2]; rfl)) ?_
  obtain ⟨y,rfl⟩:∃ y,last=some y:=by
   induction last with
   | some y=>exact ⟨y,rfl⟩
   | none=>exact absurd (by exact rQ e2 (rQ hrow (rP (hl0 rfl) rfl))) h0
  refine seg_execs_cons (nh (c:=c.on (less s0.heap C I) s0.gens) (Q:=fun b l'=>b=false/\l'=[(I,.itL l (k+1)),(C,.ns ((sIv,.int x)::m))]) (Tst.cmp rfl (Ev.lo rfl rfl (.t .h) hmL rfl (Ev.cnone (Cmp.isN rfl ⟨_,rfl,rfl,rfl⟩)))) r3 ?_)
  rintro Z4 led4 s₄ b hz4 r4 ⟨rfl,rfl⟩
  refine rP (aX (by decide)) ?_
  refine seg_execs_nil ?_
  refine seg_execs_cons (seg_While fun p2=>?_)
  exact gwhile rfl rfl (n+1) hn hn5 s0 s₄ (k+1) _ Z4 g.ok r4 hmL hg hos
 rw [aX e2] at hg
 refine rP (aX (by rw [beq_iff_eq]; exact e2)) ?_
 refine seg_execs_nil ?_
 refine seg_execs_cons (seg_Expr_Yield rfl rfl rfl  (bD (c:=c.on (less s0.heap C I) s0.gens) ((Ev.lo (c:=c.on (less s0.heap C I) s0.gens) (env:=gE fd a C) rfl rfl (.t .h) rfl rfl ⟨rfl,rfl⟩:Ev _ _ _ _ _ (fun d l'=>d = .int x/\l'=[(I,.itL l (k+1)),(C,.ns ((sIv,.int x)::m))])) Z3 s₃ r3) fun Z4 led4 s₄ v d h4' r4 a4 q4=>?_))
 obtain ⟨rfl,rfl⟩:=q4
 cases a4 using AV.eInt
 intro kap hkap
 have e45:5 - (n+1)=4 - n:=Nat.succ_sub_succ 4 n
 rw [e45] at hg
 refine ⟨x,_,.at (k+1) x,hg,rfl,GAt.keptR (h:=s.heap) (G:=s.gens) r4 hos,gon (led:=[]) r4 rfl (fun p hp=>?_) (.cons rfl .nil),fun h2n s₅ gb=>hkap .none s₅ ?_⟩
 ·refine rP (List.mem_singleton.mp hp) ?_; rfl
 ·obtain ⟨k5,hk5,r5⟩:=gb.r
  replace hk5:k5=k+1:=hk5
  subst hk5
  refine seg_execs_cons (ng (c:=c.on (less s₅.heap C I) s₅.gens) (Q:=fun f l'=>f = .next/\l'=[(I,.itL l (k+1)),(C,.ns ((sLa,.int x)::(sIv,.int x)::[]))]) (Ex.asg rfl (Ev.lo rfl rfl (.t .h) rfl rfl (Asg.lo rfl rfl (.t .h) ⟨rfl,rfl⟩))) r5 ?_)
  rintro Z6 led6 s6 f gg hz6 r6 a6 ⟨rfl,rfl⟩
  cases a6
  refine seg_execs_nil (seg_again rfl (ih h2n (by exact nL hn5) s₅ s6 (k+1) (some x) _ Z6 p ⟨gb.ok,gb.ne,gb.lc,gb.li,gb.l,r6,rfl,?_,by exact rP (sc5 hn5) (aB (e45 ▸ g.k))⟩ r5.os (fun e=>by exact sN e)))
  refine rP (show 5 - n=(4 - n)+1 by exact sc5 hn5) ?_
  refine (?_:((((gst row (4 - n)).bind (bY row)).map (·.2)).bind (bY row))=_)
  refine rP hg ?_; rfl
end
end
section
section
variable {c:Cst}{A:Around}{env:Env}{led led':Led}{Z:HP}{s:Shared}
theorem asgSz {x:Str}{p pos p2:Pos}{k0:_}{m:List (Str×D)}{Q:Flow->Shared->Prop}{E:Value->Shared->Prop} (hs:swapsWith (.Constant .none k0 p2) (some (.Name x p)) pos.line env=pure false) (hl:env.kindOf x=some .local)
  (hp:(env.scope.kind == .class || (env.scope.kind == .module && env.locals != env.globals))=false)
  (u:Up led env.locals (.ns m) (.ns ((x,.none)::m)) led') (r:R c Z led s) (h:∀ s',R c Z led' s'->s'.heap.objs.size=s.heap.objs.size->Q .next s') :
  wpAny c.M A (exec (.Assign [.Name x p] (.Constant .none k0 p2) pos) env) Q E s:=by
 refine rP (exec_Assign_Name _ _ _ _ _ hs) ?_
 refine aa (wpAny_standAt (aa ?_))
 refine wpAny_Constant_none ?_
 obtain ⟨mv,hn,k⟩:=r.ns u.at
 have key:wpAny c.M A (assign (.Name x p) env .none) (fun u_ s'=>R c Z led' s'/\s'.heap.objs.size=s.heap.objs.size) noE s:=by
  refine wpAny_assign_Name (wpAny_storeName_local hl hn (fun h' hn' hs'=>⟨?_,hs'.1⟩) hp)
  obtain ⟨o,es,ep,ho,e1,e2,e3⟩:=hn'
  refine r.turn u hs' ho (.ns e1 e2 e3 fun y e hy=>?_)
  rw [aS] at hy
  by_cases q:y=x
  ·subst q
   simp at hy
   subst hy
   exact ⟨.none,aY rfl,.none⟩
  ·rw [beq_false_of_ne q] at hy
   obtain ⟨v',h1,h2⟩:=k y e hy
   exact ⟨v',by show (if y=x then some .none else mv y)=_; refine rP (aX q) ?_; exact h1,h2⟩
 rw [PySem.assign_Name] at key
 have e2:(do standAt p; bindName env x .none; pure Flow.next:Sem Flow)=((do standAt p; bindName env x .none:Sem Unit) >>= fun u_=>pure Flow.next):=by simp only [bind_assoc]
 refine rP e2 ?_
 exact aa (ac key (fun u_ s' hq=>ab (h s' hq.1 hq.2)) noE.im)
end
section
variable {c:Cst}{A:Around}{row:List Int}{C l:Addr}{vs:List Value}{nn:Nat}{fd:FuncData}{a:Addr}
structure GStart (c:Cst) (C l:Addr) (vs:List Value) (nn:Nat) (s:Shared):Prop where
 ok:(c.on (less s.heap C s.heap.objs.size) s.gens).Ok
 hC:∃ o,s.heap.get? C=some o
 lc:l≠C
 hl:s.heap.get? l=some (ci vs nn)
 r:GR c C s.heap.objs.size [(C,.ns [(sGr,.ref l)])] s
theorem gstart (cm:∃ t,c.mg sCM=some (.int 127 t)) (hvs:∃ xs:List (Int×Tok),vs=xs.map (fun p=>.int p.1 p.2)/\xs.map (·.1)=row) (h4:row.length=4) (h0:row[0]?≠some 0){s:Shared} (g:GStart c C l vs nn s) :
  (GenState.fresh (.func t06.1.body (gE fd a C))).Goes c.M A (RG row C s.heap.objs.size) (YG c row C s.heap.objs.size l vs nn) 5 (.send .none) s:=by
 refine ⟨rfl,?_⟩
 generalize hI:s.heap.objs.size=I at *
 have gr:=g.r
 have gok:=g.ok
 unfold GR at gr
 rw [hI] at gr gok
 have hCI:C≠I:=by
  obtain ⟨o,e⟩:=g.hC
  have:=br e
  rw [hI] at this
  exact Nat.ne_of_lt this
 have hlI:l≠I:=by
  have:=br g.hl
  rw [hI] at this
  exact Nat.ne_of_lt this
 refine seg_func (seg_execs_cons (seg_wrap (asgSz (c:=c.on (less s.heap C I) s.gens) rfl rfl rfl .h gr fun s₁ r₁ hsz=>?_)))
 refine seg_execs_cons (mZ (fun u_=>rfl) ?_)
 obtain ⟨mv,hn,k⟩:=r₁.ns .h
 obtain ⟨v,hv,ha⟩:=k sGr (.ref l) rfl
 cases ha using AV.eVal
 refine wpAny_Name (wpAny_loadName_local rfl rfl hn hv ?_) rfl
 have hlH:(c.on (less s.heap C I) s.gens).H0.get? l=some (ci vs nn):=by
  refine (?_:(less s.heap C I).get? l=_)
  refine rP bV (rP (aX hlI) (rP (aX g.lc) ?_)); exact g.hl
 refine iterH (c:=c.on (less s.heap C I) s.gens) hlH r₁ fun r₂ p=>?_
 rw [hsz,hI] at r₂ ⊢
 exact gloop cm hvs h4 h0 5 (by decide) (by decide) s _ 0 none _ _ p ⟨gok,hCI,g.lc,hlI,g.hl,r₂,rfl,rfl,by decide⟩ gr.os fun u_=>rfl
end
end
section
section
variable {prog:Program}{w:World}{A:Around}{E:Value->Shared->Prop}{s:Shared}
theorem lU {it:Addr}{x left step:Int}{Q:Value->Shared->Prop} (hit:IsRangeIter s.heap it x left step) (hleft:0<left)
  (hQ:∀ h',IsRangeIter h' it (x+step) (left - 1) step->Heap.SameBut it s.heap h'->Q (.int x s.toks) { s with heap:=h',toks:=s.toks+1 }) :
  wpAny (model prog w) A (Builtin.SmallTypes.nextOf (.ref it)) Q E s:=by
 have hT:s.TypeIs (.ref it) "range_iterator":=⟨_,hit,rfl⟩
 unfold Builtin.SmallTypes.nextOf
 refine aa (wpAny_callSpecial?_slot (name:=Str.ofString "__next__") hT PySem.F.slot_range_iterator_next
  (call_meets PySem.F.slot_range_iterator_next hT PySem.F.entry_range_iterator_next (PySem.F.args_range_iterator_next_1 _) (AutoRange.range_iterator___next___range_iterator_1 it x left step (by exact Int.not_le.2 hleft)) ⟨hit,?_⟩))
 exact ab (hQ _ (Heap.get?_update_self _ (Heap.get?_update_self _ hit rfl) rfl) ((Heap.SameBut.update ..).trans (Heap.SameBut.update ..)))
theorem ir {it:Addr}{x left step:Int}{Q:Value->Shared->Prop} (hh:A.handled=none) (hit:IsRangeIter s.heap it x left step) (hleft:left<=0)
  (hE:∀ h' e,Heap.ExtBut it s.heap h'->(∃ o,h'.get? e=some o/\o.cls = .type "StopIteration")->E (.ref e) { s with heap:=h' }):wpAny (model prog w) A (Builtin.SmallTypes.nextOf (.ref it)) Q E s:=by
 have hT:s.TypeIs (.ref it) "range_iterator":=⟨_,hit,rfl⟩
 unfold Builtin.SmallTypes.nextOf
 refine aa (wpAny_callSpecial?_slot (name:=Str.ofString "__next__") hT PySem.F.slot_range_iterator_next
  (wpAny_call_entry PySem.F.slot_range_iterator_next hT PySem.F.entry_range_iterator_next ?_ (PySem.F.args_range_iterator_next_1 _)))
 refine (?_:wpAny _ _ (field (.ref it) 0 >>= _) _ _ s)
 refine aa (aU hit rfl (x:=rawInt x) rfl ?_)
 refine (?_:wpAny _ _ (field (.ref it) 1 >>= _) _ _ s)
 refine aa (aU hit rfl (x:=rawInt left) rfl ?_)
 refine (?_:wpAny _ _ (field (.ref it) 2 >>= _) _ _ s)
 refine aa (aU hit rfl (x:=rawInt step) rfl ?_)
 refine (?_:wpAny _ _ (if left<=0 then _ else _) _ _ s)
 refine rP (aY hleft) ?_
 refine aa (wpAny_rule ?_)
 refine aa ?_
 refine (?_:wpAny _ _ (newExc (.type "StopIteration") [] >>= _) _ _ _)
 refine aa ?_
 simp -iota only [newExc,newTuple]
 refine aa (bp ?_ (by size_fits))
 refine aa (m:=firstArgMember _ _) (wpAny_of_eq (a:=Value.none) (by first | rfl | (simp -iota only [firstArgMember]; rfl)) ?_)
 refine bp ?_ (by size_fits)
 simp -iota only [raiseNew]
 refine aa (wpAny_handled ?_)
 first | refine rP (show A.in1.handled=none from hh) ?_ | rw [hh]
 refine aa (ab (wpAny_throw ?_))
 refine hE _ _ (fun b o u_ hb=>aT _ (aT _ hb)) ⟨_,bj _ rfl,rfl⟩
theorem gO {a:Addr}{g n:Nat}{gs:GenState}{P:Nat->Shared->Shared->Prop}{Y:Protocol}{Q:Value->Shared->Prop} (hh:A.handled=none)
  (hl:s.heap.NoLimit) (hroom:A.depth<recursionLimit)
  (hg:s.heap.IsGen a g) (hgs:s.gens[g]? = some gs)
  (hgo:gs.Goes (model prog w) A.in1 (fun n s0 r s₁=>r = .ok (.ret .none)/\P n s0 s₁) Y n (.send .none) (s.setGen g .running))
  (hY:∀ v s₁ gs',gs'.bare=true->Y (n - 1) (s.setGen g .running) v s₁ (fun r' s''=>match n with
    | 0=>False
    | m+1=>gs'.Goes (model prog w) A.in1 (fun n s0 r s₁=>r = .ok (.ret .none)/\P n s0 s₁) Y m r' s'')->Q v (s₁.setGen g gs'))
  (hP:∀ s₁,P n (s.setGen g .running) s₁->∀ h' e,(∀ b o,s₁.heap.get? b=some o->h'.get? b=some o)->(∃ o,h'.get? e=some o/\o.cls = .type "StopIteration")->E (.ref e) { s₁.setGen g .finished with heap:=h' }) :
  wpAny (model prog w) A (Builtin.SmallTypes.nextOf (.ref a)) Q E s:=by
 unfold Builtin.SmallTypes.nextOf
 refine aa (wpAny_callSpecial?_slot (name:=Str.ofString "__next__") hg.typeIs slot_gen_next
  (wpAny_call_entry slot_gen_next hg.typeIs entry_gen_next ?_ (args_gen_next _)))
 refine (?_:wpAny _ A.in1 (Builtin.Generator.genWake (.ref a) (.send .none)) _ _ s)
 unfold Builtin.Generator.genWake
 refine aa (aV (wpAny_genNumber hg (aa (wpAny_genState hgs ?_))))
 induction gs with
 | running=>exact hgo.elim
 | finished=>exact hgo.elim
 | _=>
  refine aa (wpAny_roomToWake hl hroom ?_)
  refine (?_:wpAny _ A.in1 (.resume g (.send .none) [] _) _ _ s)
  refine wpAny_resumeQ hgs hgo (fun x s₁ hx=>?_) (fun v s₁ gs' hb hv=>?_)
  ·obtain ⟨rfl,hp⟩:=hx
   refine (?_:wpAny _ A.in1 (newExc (.type "StopIteration") [] >>= _) _ _ _)
   refine aa ?_
   simp -iota only [newExc,newTuple]
   refine aa (bp ?_ (by size_fits))
   refine aa (m:=firstArgMember _ _) (wpAny_of_eq (a:=Value.none) (by first | rfl | (simp -iota only [firstArgMember]; rfl)) ?_)
   refine bp ?_ (by size_fits)
   simp -iota only [raiseNew]
   refine aa (aa (wpAny_handled ?_))
   first | refine rP (show A.in1.handled=none from hh) ?_ | rw [hh]
   refine wpAny_throw ?_
   exact hP s₁ hp _ _ (fun b o hb=>aT _ (aT _ hb)) ⟨_,bj _ rfl,rfl⟩
  ·exact ab ⟨v,rfl,ab (hY v s₁ gs' hb hv)⟩
end
end
section
section
variable {c:Cst}{Z:HP}{led led1 led2:Led}{s s₁:Shared}
noncomputable def Cst.fix (c:Cst) (G:Array GenState):Cst:={ c with gf:=some G }
theorem R.fix (r:R c Z led s):R (c.fix s.gens) Z led s:=⟨r.base,r.zin,r.on,r.dis,r.nod,⟨r.gens.1,fun G' e=>by cases e; rfl⟩,r.os⟩
theorem R.unfix {G:Array GenState} (hc:c.gf=none) (r:R (c.fix G) Z led s):R c Z led s/\s.gens=G:=⟨⟨r.base,r.zin,r.on,r.dis,r.nod,⟨r.gens.1,fun G' e=>by rw [hc] at e; exact nS e⟩,r.os⟩,r.gens.2 _ rfl⟩
theorem R.gen2 {C I l:Addr}{m m':List (Str×D)}{k k':Nat}{G:Array GenState} (hc:c.gf=none) (r:R c Z led s) (u1:Up led C (.ns m) (.ns m') led1) (u2:Up led1 I (.itL l k) (.itL l k') led2) (kp:Kept C I s s₁)
  (h1:∃ o,s₁.heap.get? C=some o/\Ch.On c.w HP.nil (.ns m') o) (h2:∃ o,s₁.heap.get? I=some o/\Ch.On c.w HP.nil (.itL l k') o) (hG:AllBare G):R c Z led2 { s₁ with gens:=G } where
 base:=r.base
 zin:=fun a o e=>by
  have e1:=r.zin a o e
  refine kp.1 a o ?_ ?_ e1
  ·rintro rfl
   have:=r.dis _ u1.at.mem
   rw [this] at e; exact nS e
  ·rintro rfl
   have hm:a∈led.map (·.1):=by refine rQ u1.keys ?_; exact List.mem_map.mpr ⟨_,u2.at.mem,rfl⟩
   obtain ⟨p,hp,hpe⟩:=List.mem_map.mp hm
   have:=r.dis p hp
   rw [hpe] at this
   rw [this] at e; exact nS e
 on:=fun p hp=>by
  have n1:(led1.map (·.1)).Nodup:=by refine rP u1.keys ?_; exact r.nod
  rcases u2.new n1 p hp with rfl | ⟨hp,hpI⟩
  ·obtain ⟨o,e,h⟩:=h2
   exact ⟨o,e,h.mono HP.nil_le⟩
  ·rcases u1.new r.nod p hp with rfl | ⟨hp,hpC⟩
   ·obtain ⟨o,e,h⟩:=h1
    exact ⟨o,e,h.mono HP.nil_le⟩
   ·obtain ⟨o,e,h⟩:=r.on p hp
    exact ⟨o,kp.1 _ _ hpC hpI e,h⟩
 dis:=fun p hp=>by
  have hm:p.1∈led.map (·.1):=by refine rQ u1.keys (rQ u2.keys ?_); exact List.mem_map.mpr ⟨p,hp,rfl⟩
  obtain ⟨q,hq,hqe⟩:=List.mem_map.mp hm
  have:=r.dis q hq
  rw [hqe] at this; exact this
 nod:=by refine rP u2.keys (rP u1.keys ?_); exact r.nod
 gens:=⟨hG,fun G' e=>by rw [hc] at e; exact nS e⟩
 os:=kp.2.2.trans r.os
theorem R.gen1 {C I l:Addr}{m m':List (Str×D)}{k':Nat}{G:Array GenState} (hc:c.gf=none) (r:R c Z led s) (u1:Up led C (.ns m) (.ns m') led1) (hI:s.heap.get? I=none) (kp:Kept C I s s₁)
  (h1:∃ o,s₁.heap.get? C=some o/\Ch.On c.w HP.nil (.ns m') o) (h2:∃ o,s₁.heap.get? I=some o/\Ch.On c.w HP.nil (.itL l k') o) (hG:AllBare G):R c Z ((I,.itL l k')::led1) { s₁ with gens:=G } where
 base:=r.base
 zin:=fun a o e=>by
  have e1:=r.zin a o e
  refine kp.1 a o ?_ ?_ e1
  ·rintro rfl
   have:=r.dis _ u1.at.mem
   rw [this] at e; exact nS e
  ·rintro rfl
   rw [hI] at e1; exact nS e1
 on:=fun p hp=>by
  rcases List.mem_cons.mp hp with rfl | hp
  ·obtain ⟨o,e,h⟩:=h2
   exact ⟨o,e,h.mono HP.nil_le⟩
  ·rcases u1.new r.nod p hp with rfl | ⟨hp,hpC⟩
   ·obtain ⟨o,e,h⟩:=h1
    exact ⟨o,e,h.mono HP.nil_le⟩
   ·obtain ⟨o,e,h⟩:=r.on p hp
    exact ⟨o,kp.1 _ _ hpC (fun q=>by rw [q,hI] at e; exact nS e) e,h⟩
 dis:=fun p hp=>by
  rcases List.mem_cons.mp hp with rfl | hp
  ·exact r.away hI
  ·have hm:p.1∈led.map (·.1):=by refine rQ u1.keys ?_; exact List.mem_map.mpr ⟨p,hp,rfl⟩
   obtain ⟨q,hq,hqe⟩:=List.mem_map.mp hm
   have:=r.dis q hq
   rw [hqe] at this; exact this
 nod:=by
  refine rP aA (rP (propext (List.nodup_cons)) (rP u1.keys ?_))
  exact ⟨r.awayL hI,r.nod⟩
 gens:=⟨hG,fun G' e=>by rw [hc] at e; exact nS e⟩
 os:=kp.2.2.trans r.os
end
end
section
noncomputable abbrev zO (TI TO:Addr) (f0:Value):Obj:={ cls:=.type "zip",dict:=none,data:=.fields #[f0,.bool false,.bool false,.ref TI,.ref TO],slots:=#[] }
noncomputable abbrev prO (a b:Value):Obj:={ cls:=.type "tuple",data:=.seq #[a,b] }
noncomputable abbrev rgO (x left:Int):Obj:={ cls:=.type "range_iterator",dict:=none,data:=.fields #[rawInt x,rawInt left,rawInt 1],slots:=#[] }
section
variable {c:Cst}{A:Around}{Z:HP}{led led' gl:Led}{s:Shared}{z TI TO i1 ga:Addr}{a b:Value}{x left:Int}
theorem R.objAt (r:R c Z led s){o:Obj}{a:Addr} (h:At led a (.obj o)):s.heap.get? a=some o:=by
 obtain ⟨o',e,y⟩:=r.at_ h
 induction y using Ch.On.eObj with
 | obj _=>exact e
theorem nj {h:Heap}{f0:Value}{oe:Obj} (a:h.get? z=some (zO TI TO f0)) (b:h.get? z=some oe) (e:oe.cls = .type "StopIteration"):False:=by
 have q:zO TI TO f0=oe:=Option.some.inj (a.symm.trans b)
 subst q
 exact nomatch (show Value.type "zip" = .type "StopIteration" from e)
inductive ZX (Q:Option Value->Shared->Prop) (E:Value->Shared->Prop) (z:Addr) (o o':Obj) (e:Value) (s:Shared):Prop
 | mk (ea:Addr) (T:String) (b:Bool):e = .ref ea->s.heap.get? z=some o->isSubtype (.type T) (.type "StopIteration")=pure b->(∀ h',h'.get? z=some o'->Heap.SameBut z s.heap h'->(∃ oe,h'.get? ea=some oe/\oe.cls = .type T)/\(b=true->Q none { s with heap:=h' })/\(b=false->E (.ref ea) { s with heap:=h' }))->ZX Q E z o o' e s
theorem kQ {Q:Option Value->Shared->Prop}{E:Value->Shared->Prop} (hTI:Z TI=some (prO (.ref i1) (.ref ga))) (r:R c Z ((z,.obj (zO TI TO .none))::(TO,.obj (prO a b))::(i1,.obj (rgO x left))::gl) s) (W:Value->Led->Shared->Prop) (X:Value->Shared->Prop)
  (hgen:0<left->∀ s' t,R c Z ((z,.obj (zO TI TO .ellipsis))::(TO,.obj (prO (.int x t) b))::(i1,.obj (rgO (x+1) (left - 1)))::gl) s'->s'.gens=s.gens->
   wpAny c.M A.in1 (Builtin.SmallTypes.nextOf (.ref ga)) (fun y s''=>∃ gl',R c Z ((z,.obj (zO TI TO .ellipsis))::(TO,.obj (prO (.int x t) b))::(i1,.obj (rgO (x+1) (left - 1)))::gl') s''/\W y gl' s'') X s')
  (h:∀ y gl' s' s'' T t,W y gl' s'->s''.gens=s'.gens->Z.le (Z.add T (prO (.int x t) y))->R c (Z.add T (prO (.int x t) y)) ((z,.obj (zO TI TO (rawInt T)))::(TO,.obj (prO (.int x t) y))::(i1,.obj (rgO (x+1) (left - 1)))::gl') s''->Q (some (.ref T)) s'')
  (hX:∀ e s',X e s'->ZX Q E z (zO TI TO .ellipsis) (zO TI TO .none) e s')
  (hE:left<=0->A.handled=none/\∀ s',R c Z gl s'->s'.gens=s.gens->Q none s'):wpAny c.M A (pyNext (.ref z)) Q E s:=by
 have hz:=r.objAt .h
 have hT:s.TypeIs (.ref z) "zip":=⟨_,hz,rfl⟩
 unfold pyNext
 refine aa (wpAny_attempt (wpAny_callSpecial?_slot (name:=Str.ofString "__next__") hT PySem.F.slot_zip_next (wpAny_call_entry PySem.F.slot_zip_next hT PySem.F.entry_zip_next ?_ (PySem.F.args_zip_next_1 _))))
 refine (?_:wpAny _ _ (field (.ref z) 2 >>= _) _ _ _)
 refine aa (aU hz rfl (x:=.bool false) rfl ?_)
 refine (?_:wpAny _ _ (field (.ref z) 3 >>= _) _ _ _)
 refine aa (aU hz rfl (x:=.ref TI) rfl ?_)
 refine aa (wpAny_seqItems (r.zin _ _ hTI) rfl ?_)
 refine (?_:wpAny _ _ (Builtin.SmallTypes.ownedTupleIsFree (.ref z) >>= _) _ _ _)
 refine aa ?_
 unfold Builtin.SmallTypes.ownedTupleIsFree
 refine aa (aU hz rfl (x:=.none) rfl (ab ?_))
 refine rP (aY rfl) ?_
 refine aa (wpAny_rule ?_)
 refine aa (aU hz rfl (x:=.ref TO) rfl ?_)
 refine aa (wpAny_setField_rec hz (by simp -iota) fun h₁ hz₁ hs₁=>?_)
 have r₁:=r.turn (t:=s.toks) (y:=.obj (zO TI TO .ellipsis)) .h hs₁ hz₁ (.obj rfl)
 refine aa ?_
 simp -iota only [List.zipIdx_cons,List.zipIdx_nil,List.forIn_cons,List.forIn_nil]
 refine aa (aa (wpAny_onRaise ?_))
 refine (?_:wpAny _ _ (Builtin.SmallTypes.nextOf (.ref i1) >>= _) _ _ _)
 by_cases hl:left<=0
 ·obtain ⟨hh,hE⟩:=hE hl
  refine aa (ir (by exact hh) (r₁.objAt (.t (.t .h))) hl fun h₂ e hs₂ he=>?_)
  obtain ⟨oe,hoe,hce⟩:=he
  have r₂:=r₁.lose (t:=s.toks) (.t (.t .h)) hs₂
  have hez:e≠z:=fun q=>nj (r₂.objAt .h) (q ▸ hoe) hce
  refine wpAny_setField_rec (r₂.objAt .h) (by simp -iota) fun h₃ hz₃ hs3=>?_
  have r₃:=r₂.lose (t:=s.toks) .h hs3.extBut
  refine aa (wpAny_isInstance (T:="StopIteration") (b:=true) ⟨oe,hs3.extBut _ _ hez hoe,hce⟩ isSubtype_stop ?_)
  exact ab (hE _ (r₃.take .h) rfl)
 have hl:=Int.not_le.1 hl
 refine aa (lU (r₁.objAt (.t (.t .h))) hl fun h₂ hr₂ hs₂=>ab ?_)
 have r₂:=r₁.turn (t:=s.toks+1) (y:=.obj (rgO (x+1) (left - 1))) (.t (.t .h)) hs₂ hr₂ (.obj rfl)
 refine aa (wpAny_seqItems (r₂.objAt (.t .h)) rfl ?_)
 refine aa (wpAny_updateSeq_pair (r₂.objAt (.t .h)) fun h₃ hTO3 hs3=>?_)
 have r₃:=r₂.turn (t:=s.toks+1) (y:=.obj (prO (.int x s.toks) b)) (.t .h) hs3 hTO3 (.obj rfl)
 refine aa (wpAny_letGo (ab ?_))
 refine aa (aa (wpAny_onRaise ?_))
 refine (?_:wpAny _ _ (Builtin.SmallTypes.nextOf (.ref ga) >>= _) _ _ _)
 refine aa (ac (hgen hl _ s.toks r₃ rfl) (fun y s₄ hy=>ab ?_) (fun e s₄ he=>?_))
 ·obtain ⟨gl',r₄,w4⟩:=hy
  refine aa (wpAny_seqItems (r₄.objAt (.t .h)) rfl ?_)
  refine aa (wpAny_updateSeq_pair (r₄.objAt (.t .h)) fun h₅ hTO5 hs5=>?_)
  have r₅:=r₄.turn (t:=s₄.toks) (y:=.obj (prO (.int x s.toks) y)) (.t .h) hs5 hTO5 (.obj rfl)
  refine aa (wpAny_letGo (ab (ab ?_)))
  refine aa (wpAny_seqItems (r₅.objAt (.t .h)) rfl ?_)
  refine aa (wpAny_newTuple ?_)
  obtain ⟨hz6,r₆⟩:=r₅.pushZ (o:=prO (.int x s.toks) y) rfl
  refine (?_:wpAny _ _ (Builtin.SmallTypes.ownedTupleHandOut (.ref z) (.ref h₅.objs.size) >>= _) _ _ _)
  refine aa ?_
  unfold Builtin.SmallTypes.ownedTupleHandOut
  refine aa (wpAny_setField_rec (r₆.objAt .h) (by simp -iota) fun h₇ hz7 hs7=>?_)
  have r₇:=r₆.turn (t:=s₄.toks) (y:=.obj (zO TI TO (rawInt h₅.objs.size))) .h hs7 hz7 (.obj rfl)
  refine wpAny_setField_rec (r₇.objAt .h) (by simp -iota) fun h₈ hz8 hs8=>?_
  have r₈:=r₇.turn (t:=s₄.toks) (y:=.obj (zO TI TO (rawInt h₅.objs.size))) .h hs8 hz8 (.obj rfl)
  refine ab ⟨_,rfl,ab ?_⟩
  exact h y gl' s₄ _ h₅.objs.size s.toks w4 rfl hz6 r₈
 ·obtain ⟨ea,T,bb,rfl,hz4,hsub,k⟩:=hX e s₄ he
  refine wpAny_setField_rec hz4 (by simp -iota) fun h₅ hz5 hs5=>?_
  obtain ⟨⟨oe,hoe,hce⟩,k1,k2⟩:=k h₅ hz5 hs5
  refine aa (wpAny_isInstance ⟨oe,hoe,hce⟩ hsub ?_)
  induction bb with
  | true=>exact ab (k1 rfl)
  | false=>exact wpAny_throw (k2 rfl)
theorem zipNext {Q:Option Value->Shared->Prop} (hTI:Z TI=some (prO (.ref i1) (.ref ga))) (r:R c Z ((z,.obj (zO TI TO .none))::(TO,.obj (prO a b))::(i1,.obj (rgO x left))::gl) s) (hl:0<left) (W:Value->Led->Shared->Prop)
  (hgen:∀ s' t,R c Z ((z,.obj (zO TI TO .ellipsis))::(TO,.obj (prO (.int x t) b))::(i1,.obj (rgO (x+1) (left - 1)))::gl) s'->s'.gens=s.gens->
   wpAny c.M A.in1 (Builtin.SmallTypes.nextOf (.ref ga)) (fun y s''=>∃ gl',R c Z ((z,.obj (zO TI TO .ellipsis))::(TO,.obj (prO (.int x t) b))::(i1,.obj (rgO (x+1) (left - 1)))::gl') s''/\W y gl' s'') noE s')
  (h:∀ y gl' s' s'' T t,W y gl' s'->s''.gens=s'.gens->Z.le (Z.add T (prO (.int x t) y))->R c (Z.add T (prO (.int x t) y)) ((z,.obj (zO TI TO (rawInt T)))::(TO,.obj (prO (.int x t) y))::(i1,.obj (rgO (x+1) (left - 1)))::gl') s''->Q (some (.ref T)) s'') :
  wpAny c.M A (pyNext (.ref z)) Q noE s:=
 kQ hTI r W noE (fun u_=>hgen) h (fun u_ u_ f=>f.elim) fun q=>(Int.not_le.2 hl q).elim
theorem zipEnd {Q:Option Value->Shared->Prop} (hh:A.handled=none) (hTI:Z TI=some (prO (.ref i1) (.ref ga))) (r:R c Z ((z,.obj (zO TI TO .none))::(TO,.obj (prO a b))::(i1,.obj (rgO x left))::gl) s) (hl:left<=0)
  (h:∀ s',R c Z gl s'->s'.gens=s.gens->Q none s'):wpAny c.M A (pyNext (.ref z)) Q noE s:=
 kQ hTI r (fun u_ u_ u_=>False) noE (fun q=>(Int.not_le.2 q hl).elim) (fun u_ u_ u_ u_ u_ u_ f=>f.elim) (fun u_ u_ f=>f.elim) fun u_=>⟨hh,h⟩
theorem zipEndG {Q:Option Value->Shared->Prop} (hTI:Z TI=some (prO (.ref i1) (.ref ga))) (r:R c Z ((z,.obj (zO TI TO .none))::(TO,.obj (prO a b))::(i1,.obj (rgO x left))::gl) s) (hl:0<left){glE:Led}
  (hgen:∀ s' t,R c Z ((z,.obj (zO TI TO .ellipsis))::(TO,.obj (prO (.int x t) b))::(i1,.obj (rgO (x+1) (left - 1)))::gl) s'->s'.gens=s.gens->
   wpAny c.M A.in1 (Builtin.SmallTypes.nextOf (.ref ga)) (fun u_ u_=>False) (fun e s''=>∃ ea,e = .ref ea/\(∃ o,s''.heap.get? ea=some o/\o.cls = .type "StopIteration")/\R c Z ((z,.obj (zO TI TO .ellipsis))::glE) s'') s')
  (h:∀ s',R c Z glE s'->Q none s'):wpAny c.M A (pyNext (.ref z)) Q noE s:=
 kQ hTI r (fun u_ u_ u_=>False) _ (fun u_ s' t k g=>ac (hgen s' t k g) (fun u_ u_ f=>f.elim) fun u_ u_ x=>x) (fun u_ u_ u_ u_ u_ u_ f=>f.elim) (fun e s₄ ⟨ea,he,⟨oe,hoe,hce⟩,r₄⟩=>⟨ea,_,true,he,r₄.objAt .h,isSubtype_stop,fun h₅ hz5 hs5=>
  ⟨⟨oe,hs5.extBut _ _ (fun q=>nj (r₄.objAt .h) (q ▸ hoe) hce) hoe,hce⟩,fun u_=>h _ (r₄.lose (t:=s₄.toks) .h hs5.extBut),fun q=>tF q⟩⟩) fun q=>(Int.not_le.2 hl q).elim
end
end
section
end
section
theorem AllBare.set {G:Array GenState} (h:AllBare G){x:GenState} (hb:x.bare=true) (g:Nat):AllBare (G.setIfInBounds g x):=fun y hy=>by
 obtain ⟨i,hi,e⟩:=Array.mem_iff_getElem.mp hy
 rw [Array.getElem_setIfInBounds (by simpa using hi)] at e
 split at e
 ·refine rQ e ?_; exact hb
 ·refine rQ e ?_; exact h _ (Array.getElem_mem _)
theorem bO:GenState.running.bare=true:=rfl
theorem cO:GenState.finished.bare=true:=rfl
theorem At.up {y:Ch}{l:Led}{a:Addr}{x:Ch} (h:At l a x):∃ l',Up l a x y l':=h.rec ⟨_,.h⟩ fun u_ ih=>ih.elim fun u_ u=>⟨_,.t u⟩
theorem At.over {l l':Led}{a b:Addr}{x y z:Ch} (h:At l b z) (ne:a≠b) (u:Up l a x y l'):At l' b z:=by
 induction u with
 | h=>
  cases h with
  | h=>exact absurd rfl ne
  | t h=>exact .t h
 | t u ih=>
  cases h with
  | h=>exact .h
  | t h=>exact .t (ih h ne)
theorem Take.over {l l':Led}{a b:Addr}{x z:Ch} (h:At l b z) (ne:a≠b) (u:Take l a x l'):At l' b z:=by
 induction u with
 | h=>
  cases h with
  | h=>exact absurd rfl ne
  | t h=>exact h
 | t u ih=>
  cases h with
  | h=>exact .h
  | t h=>exact .t (ih h ne)
section
variable {c:Cst}{A:Around}{Z:HP}{led led' gl:Led}{s:Shared}{row:List Int}{C I l ga:Addr}{g:Nat}{vs:List Value}{nn:Nat}{gs:GenState}
theorem R.setRun (hc:c.gf=none) (r:R c Z led s){x:GenState} (hb:x.bare=true):R c Z led (s.setGen g x):=
 ⟨r.base,r.zin,r.on,r.dis,r.nod,⟨AllBare.set r.gens.1 hb g,fun G' e=>by rw [hc] at e; exact nS e⟩,r.os⟩
theorem genBase (hc:c.gf=none) (ok:c.Ok) (r:R c Z led s){st:GS}{k:Nat} (h1:At led C (.ns (mOf st))) (h2:At led I (.itL l k)) (hk:okIx st k) (hf:flatM (mOf st)) (ne:C≠I) (hl:Z l=some (ci vs nn)) :
  lT c C I l vs nn st s where
 ne:=ne
 lc:=fun e=>by have:=r.dis _ h1.mem; rw [e] at hl; rw [this] at hl; exact nS hl
 li:=fun e=>by have:=r.dis _ h2.mem; rw [e] at hl; rw [this] at hl; exact nS hl
 ok:=ok.on (jw r (r.dis _ h1.mem) (r.dis _ h2.mem))
 r:=by
  refine ⟨k,hk,GR.of r (r.dis _ h1.mem) (r.dis _ h2.mem) ?_ ?_⟩
  ·intro p hp
   rcases List.mem_cons.mp hp with rfl | hp
   ·obtain ⟨o,e,h⟩:=r.at_ h2
    exact ⟨.inr rfl,o,e,h.flatIt⟩
   ·refine rP (List.mem_singleton.mp hp) ?_
    obtain ⟨o,e,h⟩:=r.at_ h1
    exact ⟨.inl rfl,o,e,h.flatNs hf⟩
  ·simp [ne.symm]
 l:=r.zin _ _ hl
theorem nk {G:Array GenState}{g:Nat}{x y:GenState} (h:G[g]? = some x):(G.setIfInBounds g y)[g]? = some y:=by
 have hlt:g<G.size:=by
  rw [Array.getElem?_eq_some_iff] at h
  exact h.1
 exact rP Array.getElem?_setIfInBounds (rP (aY rfl) (rP (aY hlt) rfl))
theorem no {G:Array GenState}{g:Nat}{x y z:GenState} (h:G[g]? = some x):((G.setIfInBounds g y).setIfInBounds g z)[g]? = some z:=nk (nk h)
theorem flat_mOf (st:GS):flatM (mOf st):=by
 cases st
 ·exact .nil
 ·exact .cons rfl .nil
 ·exact .cons rfl .nil
theorem kR {st:GS}{n k:Nat}{Q:Value->Shared->Prop}{E:Value->Shared->Prop} (hc:c.gf=none) (ok:c.Ok) (hh:A.handled=none) (hroom:A.depth<recursionLimit) (hn:2<=n) (hn5:n<=5) (r:R c Z led s)
  (h1:At led C (.ns (mOf st))) (h2:At led I (.itL l k)) (hk:okIx st k) (ne:C≠I) (hl:Z l=some (ci vs nn)) (hg:s.heap.IsGen ga g) (hgs:s.gens[g]? = some gs) (hst:gst row (5 - n)=some st)
  (go:∀ s',lT c C I l vs nn st s'->gs.Goes c.M A.in1 (RG row C I) (YG c row C I l vs nn) n (.send .none) s')
  (hY:∀ x t st' k' led1 led2 s' gs',bY row st=some (x,st')->Up led C (.ns (mOf st)) (.ns (mOf st')) led1->Up led1 I (.itL l k) (.itL l k') led2->R c Z led2 s'->s'.gens[g]? = some gs'->okIx st' k'->gst row (5 - (n - 1))=some st'->
   (2<=n - 1->∀ s'',lT c C I l vs nn st' s''->gs'.Goes c.M A.in1 (RG row C I) (YG c row C I l vs nn) (n - 1) (.send .none) s'')->(∀ b g',s.heap.IsGen b g'->b≠C->b≠I->s'.heap.IsGen b g')->Q (.int x t) s')
  (hP:bY row st=none->∀ s' ea led1 led2,Take led C (.ns (mOf st)) led1->Take led1 I (.itL l k) led2->(∃ o,s'.heap.get? ea=some o/\o.cls = .type "StopIteration")->R c Z led2 s'->E (.ref ea) s') :
  wpAny c.M A (Builtin.SmallTypes.nextOf (.ref ga)) Q E s:=by
 obtain ⟨m,rfl⟩:∃ m,n=m+1:=⟨n - 1,by exact (sub1' hn).symm⟩
 have rr:=R.setRun (g:=g) hc r bO
 have gb:=genBase (vs:=vs) (nn:=nn) hc ok rr h1 h2 hk (flat_mOf st) ne hl
 refine gO (P:=PG row C I) (Y:=YG c row C I l vs nn) hh (ok.lim.keeps r.keepH) hroom hg hgs (go _ gb) ?_ ?_
 ·rintro v s₁ gs' hb ⟨x,t,st',hx,rfl,kp,go',kap⟩
  rw [show 4 - (m+1 - 1)=5 - (m+1) by lia,hst] at hx
  replace hx:bY row st=some (x,st'):=hx
  obtain ⟨hC,k',hk',hI⟩:=go'
  obtain ⟨led1,u1⟩:∃ led1,Up led C (.ns (mOf st)) (.ns (mOf st')) led1:=At.up h1
  have h2':At led1 I (.itL l k):=h2.over ne u1
  obtain ⟨led2,u2⟩:∃ led2,Up led1 I (.itL l k) (.itL l k') led2:=At.up h2'
  have hG:AllBare (s₁.gens.setIfInBounds g gs'):=by refine rP kp.2.1 ?_; exact AllBare.set (AllBare.set r.gens.1 bO g) hb g
  refine hY x t st' k' led1 led2 _ gs' hx u1 u2 (R.gen2 hc rr u1 u2 kp hC hI hG) ?_ hk' ?_ (fun h2n s'' gb'=>kap (by exact h2n) s'' gb') ?_
  ·refine (?_:(s₁.gens.setIfInBounds g gs')[g]? = _)
   refine rP kp.2.1 ?_; exact no hgs
  ·refine rP (show 5 - (m+1 - 1)=(5 - (m+1))+1 by exact sd5 hn5) ?_
   refine (?_:(((gst row (5 - (m+1))).bind (bY row)).map (·.2))=_)
   refine rP hst ?_; show (bY row st).map (·.2)=_; refine rP hx ?_; rfl
  ·rintro b g' ⟨o,nm,qn,e,q⟩ hbC hbI
   exact ⟨o,nm,qn,kp.1 _ _ hbC hbI e,q⟩
 ·rintro s₁ ⟨hx,kp⟩ h' ea hk he
  rw [hst] at hx
  obtain ⟨led1,t1⟩:=h1.take
  obtain ⟨led2,t2⟩:=(Take.over h2 ne t1).take
  refine hP hx _ ea led1 led2 t1 t2 he ?_
  have n1:(led1.map (·.1)).Nodup:=(t1.sub.map _).nodup r.nod
  exact {
   base:=r.base
   zin:=fun a o e=>hk _ _ (kp.1 a o (by rintro rfl; have:=r.dis _ h1.mem; rw [this] at e; exact nS e) (by rintro rfl; have:=r.dis _ h2.mem; rw [this] at e; exact nS e) (r.zin a o e))
   on:=fun p hp=>by
    have hp1:=t2.sub.subset hp
    have hp0:=t1.sub.subset hp1
    obtain ⟨o,e,h⟩:=r.on p hp0
    exact ⟨o,hk _ _ (kp.1 _ _ (t1.ne r.nod p hp1) (t2.ne n1 p hp) e),h⟩
   dis:=fun p hp=>r.dis p (t1.sub.subset (t2.sub.subset hp))
   nod:=(t2.sub.map _).nodup n1
   gens:=⟨by
    refine (?_:AllBare (s₁.gens.setIfInBounds g _))
    refine rP kp.2.1 ?_; exact AllBare.set (AllBare.set r.gens.1 bO g) cO g,fun G' e=>by rw [hc] at e; exact nS e⟩
   os:=kp.2.2.trans r.os }
end
end
section
theorem Frs.up {led:Led}{l:List Env}{p:Addr×Ch} (h:Frs led l):Frs (p::led) l:=fun e he=>let ⟨a,L,m,b,d⟩:=h e he; ⟨a,L,m,b,.t d⟩
noncomputable abbrev sVE:Str:=⟨⟨[86,97,108,117,101,69,114,114,111,114]⟩⟩
noncomputable def fbOf:Stmt->List Stmt
 | .For _ _ b _ _=>b
 | _=>[]
noncomputable def gBody:List Stmt:=fbOf (t06.1.body.getD 1 (.Pass ⟨0,0,0,0⟩))
section
variable {c:Cst}{A:Around}{Z:HP}{led ledr:Led}{s:Shared}{fd:FuncData}{a C I l:Addr}
theorem np (ok:c.Ok) (hh:A.handled=none) (cmx:∃ t,c.mg sCM=some (.int 127 t)) (bv:c.mg sVE=none/\c.mb sVE=some (.type "ValueError")){rest:List D}{m:List (Str×D)} (l1:m.lookup sIv=some (.int 0)) (l2:m.lookup sLa=some .none)
  (r:R c Z ((I,.it rest)::(C,.ns m)::ledr) s){E:Value->Shared->Prop} (h:∀ e Z' s',Z.le Z'->Exc0 c Z' ((I,.it rest)::(C,.ns m)::ledr) e s'->E (.ref e) s'):wpAny c.M A (execs gBody (gE fd a C)) (fun u_ u_=>False) E s:=by
 obtain ⟨t,cmx⟩:=cmx
 refine wpAny_execs_cons ?_
 have e1:Ex c A (gE fd a C) (gBody.getD 0 (.Pass ⟨0,0,0,0⟩)) ((I,.it rest)::(C,.ns m)::ledr) (fun f l=>f = .next/\l=(I,.it rest)::(C,.ns m)::ledr):=
  Ex.ite (Tst.cmp rfl (Ev.lo rfl rfl (.t .h) l1 rfl (Ev.gloI ok rfl rfl rfl cmx rfl (Cmp.eqI ⟨_,rfl,Exs.ni ⟨rfl,rfl⟩⟩))))
 refine je (e1 Z s r) fun Z1 led₁ s₁ f g h1 r1 a1 q=>?_
 obtain ⟨rfl,rfl⟩:=q
 cases a1
 refine wpAny_execs_cons ?_
 have t1:∀ p1 p2 p3,Tst c A (gE fd a C) (.Compare (.Name sIv p1) [.Eq] [.Constant (.int (Int.ofNat 0)) 0 p2] p3) ((I,.it rest)::(C,.ns m)::ledr) (fun b l=>b=true/\l=(I,.it rest)::(C,.ns m)::ledr):=
  fun p1 p2 p3=>Tst.cmp rfl (Ev.lo rfl rfl (.t .h) l1 rfl (Ev.cn 0 (Cmp.eqI ⟨_,rfl,rfl,rfl⟩)))
 refine wpAny_If (fo (t1 _ _ _ Z1 s₁ r1) fun Z₂ led₂ s₂ b h2 r2 q=>?_)
 obtain ⟨rfl,rfl⟩:=q
 refine wpAny_execs_cons ?_
 have t2:∀ p1 p2 p3,Tst c A (gE fd a C) (.Compare (.Name sLa p1) [.Is] [.Constant .none 0 p2] p3) ((I,.it rest)::(C,.ns m)::ledr) (fun b l=>b=true/\l=(I,.it rest)::(C,.ns m)::ledr):=
  fun p1 p2 p3=>Tst.cmp rfl (Ev.lo rfl rfl (.t .h) l2 rfl (Ev.cnone (Cmp.isN rfl ⟨_,rfl,rfl,rfl⟩)))
 refine wpAny_If (fo (t2 _ _ _ Z₂ s₂ r2) fun Z3 led3 s₃ b h3 r3 q=>?_)
 obtain ⟨rfl,rfl⟩:=q
 refine wpAny_execs_cons ?_
 refine wpAny_Raise_call excCall_ValueError excRaise_ValueError hh rfl (bD (Ev.bui (x:=sVE) (Q:=fun d l=>d = .val (.type "ValueError")/\l=(I,.it rest)::(C,.ns m)::ledr) ok rfl rfl rfl rfl bv.1 bv.2 rfl ⟨rfl,rfl⟩ Z3 s₃ r3) fun Z4 led4 s₄ v d h4 r4 a4 q=>?_)
 obtain ⟨rfl,rfl⟩:=q
 refine a4.val' ⟨rfl,jf rfl (jd (Evs.co (Q:=fun ds l=>ds.length=1/\l=(I,.it rest)::(C,.ns m)::ledr) rfl (Ev.cstr (Evs.ni ⟨rfl,rfl⟩)) Z4 s₄ r4) fun Z5 led5 s₅ ws ds h5 r5 a5 q=>?_)⟩
 obtain ⟨hl,rfl⟩:=q
 refine ⟨rfl,by refine rP a5.length (rP hl (rP ai ?_)); decide,fun h' e hm=>?_⟩
 obtain ⟨t,ht,_⟩:=hm.there
 exact h e Z5 _ ((((h1.trans h2).trans h3).trans h4).trans h5) ⟨r5.grow (s:=s₅) s₅.toks hm.keeps,⟨r5.away hm.new,r5.awayL hm.new⟩,_,_,ht,rfl,rfl,rfl⟩
end
end
section
section
variable {c:Cst}{A:Around}{Z:HP}{led ledr:Led}{s:Shared}{fd:FuncData}{a C I l:Addr}{outer:List Env}
theorem cameX {e:Addr}{f:Value}{fr:Option Addr}{what:String}{Q:Unit->Shared->Prop}{E:Value->Shared->Prop} (x:Exc1 c Z led e f s) (h:∀ s',Exc1 c Z led e (fr.elim .none fun f=>rawInt f) s'->Q () s') :
  wpAny c.M A (do
   if (<- field (.ref e) 1) == Value.none then unsupported what
   setFlight (.ref e) fr) Q E s:=by
 obtain ⟨T,ht⟩:=traced (A:=A) (E:=E) x
 refine aa (ht _ ?_)
 refine rP (aX (by simp)) ?_
 exact jo x h
theorem leaveX {e:Addr}{env:Env}{L:Addr}{Q:Unit->Shared->Prop}{E:Value->Shared->Prop} (hf:env.frame=some L) (x:Exc1 c Z led e (rawInt L) s) (h:∀ s',Exc1 c Z led e .none s'->Q () s'):wpAny c.M A (leaving env (.ref e)) Q E s:=by
 unfold leaving
 exact aa (noteIn hf x (jo (fr:=none) x h))
theorem nq {cd c1:Code}{k:Result->Sem PySem.Fin}{g:Bool}{lv kp:List Value}{p:Pos} (hh:A.handled=none):(A.over cd [.ret k none g lv c1 p kp]).handled=none:=by
 unfold Around.over
 rw [hh]; rfl
theorem over_fr {cd:Code}{body:List Stmt}{env:Env}{k:Result->Sem PySem.Fin}{g:Bool}{lv kp:List Value}{p:Pos} (hfr:A.frames=some outer) (he:cd.envs=[]) (h2:(Code.func body env).envs=[env]):(A.over cd [.ret k none g lv (.func body env) p kp]).frames=some (env::outer):=by
 unfold Around.over
 refine (?_:pushEnvs cd.envs (pushEnvs (envsOf [((Code.func body env),p)]) A.frames)=_)
 refine rP hfr (rP he ?_)
 refine (?_:some ([]++(envsOf [((Code.func body env),p)]++outer))=_)
 refine rP (show envsOf [((Code.func body env),p)]=[env] from h2) ?_
 rfl
theorem genRaise (ok:c.Ok) (hh:A.handled=none) (hfr:A.frames=some outer) (F:Frs ledr outer) (cmx:∃ t,c.mg sCM=some (.int 127 t)) (bv:c.mg sVE=none/\c.mb sVE=some (.type "ValueError")){vs:List Value}{nn:Nat}{row:List Int} (hl:Z l=some (ci vs nn)) (av:AVs c.w Z vs ((0::row).map .int))
  (r:R c Z ((C,.ns [(sGr,.ref l)])::ledr) s){Y:Protocol}{n:Nat} :
  (GenState.fresh (.func t06.1.body (gE fd a C))).Goes c.M A (fun u_ u_ rr s₁=>∃ e Z',rr = .error (.ref e)/\Z.le Z'/\Exc1 c Z' ((C,.ns [])::ledr) e .none s₁) Y n (.send .none) s:=by
 refine ⟨rfl,?_⟩
 have e1:Ex c (A.over (.func t06.1.body (gE fd a C)) []) (gE fd a C) (t06.1.body.getD 0 (.Pass ⟨0,0,0,0⟩)) ((C,.ns [(sGr,.ref l)])::ledr) (fun f l'=>f = .next/\l'=(C,.ns [(sLa,.none),(sGr,.ref l)])::ledr):=
  Ex.asg rfl (Ev.cnone (Asg.lo rfl rfl .h ⟨rfl,rfl⟩))
 refine seg_func (seg_execs_cons (ng e1 r fun Z1 led₁ s₁ f g h1 r1 a1 q=>?_))
 obtain ⟨rfl,rfl⟩:=q
 cases a1
 refine seg_execs_cons (mZ (fun u_=>rfl) ?_)
 have e2:∀ p,Ev c (A.over (.func t06.1.body (gE fd a C)) []) (gE fd a C) (.Name sGr p) ((C,.ns [(sLa,.none),(sGr,.ref l)])::ledr) (fun d l'=>d = .ref l/\l'=(C,.ns [(sLa,.none),(sGr,.ref l)])::ledr):=
  fun p=>Ev.lo rfl rfl .h rfl rfl ⟨rfl,rfl⟩
 refine bD (e2 _ Z1 s₁ r1) fun Z₂ led₂ s₂ v d h2 r2 a2 q=>?_
 obtain ⟨rfl,rfl⟩:=q
 refine a2.val' ?_
 have z2:=h1.trans h2
 refine bD (Itr.lst (Q:=fun d l'=>∃ I,d = .ref I/\l'=(I,.it ((0::row).map .int))::(C,.ns [(sLa,.none),(sGr,.ref l)])::ledr) (fun I=>⟨I,rfl,rfl⟩) Z₂ s₂ _ r2 (.lst (z2 _ _ hl) (av.mono z2))) fun Z3 led3 s₃ v d h3 r3 a3 q=>?_
 obtain ⟨I,rfl,rfl⟩:=q
 refine a3.val' fun p=>?_
 have nx:=fun (A':Around) (hA':A'.handled=none)=>(Cur.it (c:=c) (A:=A') hA' (.Name sIv ⟨41,8,41,16⟩) I).more (.int 0) (row.map .int) _ _ trivial .h Z3 s₃ r3
 refine fM (ac (nx _ (nq hh)) (fun o s₄ x=>?_) noE.im)
 induction o with
 | none=>obtain ⟨_,_,_,_,f⟩:=x; exact f.elim
 | some v=>
  refine ac x (fun _ s₅ ⟨Z5,led5,d',h5,r5,a5,q1,q2⟩=>?_) noE.im
  subst q1 q2
  have e3:∀ A p,Asg c A (gE fd a C) (.Name sIv p) (.int 0) ((I,.it (row.map .int))::(C,.ns [(sLa,.none),(sGr,.ref l)])::ledr) (fun l'=>l'=(I,.it (row.map .int))::(C,.ns [(sIv,.int 0),(sLa,.none),(sGr,.ref l)])::ledr):=
   fun A p=>Asg.lo rfl rfl (.t .h) rfl
  refine fq (e3 _ _ Z5 s₅ v r5 a5) fun Z6 led6 s6 h6 r6 q=>?_
  subst q
  refine seg_wrap (ac (np (E:=fun x s'=>∃ e Z',x = .ref e/\Z6.le Z'/\Exc0 c Z' ((I,.it (row.map .int))::(C,.ns [(sIv,.int 0),(sLa,.none),(sGr,.ref l)])::ledr) e s') ok (nq hh) cmx bv rfl rfl r6 fun e Z' s' hz x=>⟨e,Z',rfl,hz,x⟩) (fun u_ u_ f=>f.elim) fun x s7 hx=>?_)
  obtain ⟨e,Z7,rfl,h7,x0⟩:=hx
  have F2:Frs ((I,.it (row.map .int))::(C,.ns [(sIv,.int 0),(sLa,.none),(sGr,.ref l)])::ledr) (gE fd a C::outer):=Frs.cons (fun q=>by cases q) rfl (.t .h) F.up.up
  refine seg_wrap (aa (note0 (over_fr hfr rfl rfl) F2 rfl x0 fun s8 x1=>wpAny_theTreesLotGoes ?_))
  refine seg_leaf (.error (.ref e)) ?_
  unfold ownK
  refine rP (Sem.onRaise_eq_wrap _ _) (rP (Sem.wrap_wrap _ _ _ _ _ _ _ _ _) ?_)
  refine (?_:Seg _ _ _ _ _ _ _ ((Sem.bind _ _).wrap _ _ _ _) _ _)
  refine rP (Sem.bind_eq_wrap _ _) (rP (Sem.wrap_wrap _ _ _ _ _ _ _ _ _) ?_)
  refine seg_wrap (cameX x1 fun s9 x2=>?_)
  refine seg_wrap (wpAny_throw ?_)
  refine seg_wrap (leaveX rfl x2 fun s10 x3=>?_)
  refine seg_end (.error (.ref e)) ⟨e,Z7,rfl,(((z2.trans h3).trans h5).trans h6).trans h7,?_⟩
  exact x3.weak (.drop (.le .ns0 .rest))
end
end
section
section
variable {c:Cst}{A:Around}{Z:HP}{led led' gl:Led}{s:Shared}{row:List Int}{C l ga:Addr}{g:Nat}{vs:List Value}{nn:Nat}{gs:GenState}{fd:FuncData}{a:Addr}
theorem kT {Q:Value->Shared->Prop}{E:Value->Shared->Prop} (hc:c.gf=none) (ok:c.Ok) (hh:A.handled=none) (hroom:A.depth<recursionLimit) (cm:∃ t,c.mg sCM=some (.int 127 t)) (hvs:∃ xs:List (Int×Tok),vs=xs.map (fun p=>.int p.1 p.2)/\xs.map (·.1)=row) (h4:row.length=4) (h0:row[0]?≠some 0) (r:R c Z led s)
  (h1:At led C (.ns [(sGr,.ref l)])) (hl:Z l=some (ci vs nn)) (hg:s.heap.IsGen ga g) (hgs:s.gens[g]? = some (.fresh (.func t06.1.body (gE fd a C))))
  (hY:∀ I x t st' k' led1 s' gs',C≠I->s.heap.get? I=none->bY row .start=some (x,st')->Up led C (.ns [(sGr,.ref l)]) (.ns (mOf st')) led1->R c Z ((I,.itL l k')::led1) s'->s'.gens[g]? = some gs'->okIx st' k'->gst row 1=some st'->
   (∀ s'',lT c C I l vs nn st' s''->gs'.Goes c.M A.in1 (RG row C I) (YG c row C I l vs nn) 4 (.send .none) s'')->(∀ b g',s.heap.IsGen b g'->b≠C->s'.heap.IsGen b g')->Q (.int x t) s')
  (hP:bY row .start=none->∀ s' ea led1,Take led C (.ns [(sGr,.ref l)]) led1->(∃ o,s'.heap.get? ea=some o/\o.cls = .type "StopIteration")->R c Z led1 s'->E (.ref ea) s') :
  wpAny c.M A (Builtin.SmallTypes.nextOf (.ref ga)) Q E s:=by
 have rr:=R.setRun (g:=g) hc r bO
 generalize hI:s.heap.objs.size=I at *
 have hCI:C≠I:=by
  obtain ⟨o,e,_⟩:=r.at_ h1
  have:=br e
  rw [hI] at this
  exact Nat.ne_of_lt this
 have hIn:s.heap.get? I=none:=by refine rQ hI ?_; exact R.none_of_ge (aC _)
 have gs0:GStart c C l vs nn (s.setGen g .running):={
  ok:=ok.on (jw rr (rr.dis _ h1.mem) (rr.away (by show s.heap.get? s.heap.objs.size=none; refine rP hI ?_; exact hIn)))
  hC:=let ⟨o,e,_⟩:=r.at_ h1; ⟨o,e⟩
  lc:=fun e=>by have:=r.dis _ h1.mem; rw [e] at hl; rw [this] at hl; exact nS hl
  hl:=r.zin _ _ hl
  r:=GR.of rr (rr.dis _ h1.mem) (rr.away (by show s.heap.get? s.heap.objs.size=none; refine rP hI ?_; exact hIn)) (fun p hp=>by
   refine rP (List.mem_singleton.mp hp) ?_
   obtain ⟨o,e,h⟩:=r.at_ h1
   exact ⟨.inl rfl,o,e,h.flatNs (.cons rfl .nil)⟩) (by simp) }
 have go:=gstart (A:=A.in1) (fd:=fd) (a:=a) cm hvs h4 h0 gs0
 rw [show (s.setGen g GenState.running).heap.objs.size=I from hI] at go
 refine gO (P:=PG row C I) (Y:=YG c row C I l vs nn) hh (ok.lim.keeps r.keepH) hroom hg hgs go ?_ ?_
 ·rintro v s₁ gs' hb ⟨x,t,st',hx,rfl,kp,go',kap⟩
  replace hx:bY row .start=some (x,st'):=hx
  obtain ⟨hC,k',hk',hI'⟩:=go'
  obtain ⟨led1,u1⟩:∃ led1,Up led C (.ns [(sGr,.ref l)]) (.ns (mOf st')) led1:=At.up h1
  have hG:AllBare (s₁.gens.setIfInBounds g gs'):=by refine rP kp.2.1 ?_; exact AllBare.set (AllBare.set r.gens.1 bO g) hb g
  refine hY I x t st' k' led1 _ gs' hCI hIn hx u1 (R.gen1 hc rr u1 hIn kp hC hI' hG) ?_ hk' ?_ (fun s'' gb'=>kap (by decide) s'' gb') ?_
  ·refine (?_:(s₁.gens.setIfInBounds g gs')[g]? = _)
   refine rP kp.2.1 ?_; exact no hgs
  ·refine (?_:(((gst row 0).bind (bY row)).map (·.2))=_)
   refine (?_:(bY row .start).map (·.2)=_); refine rP hx ?_; rfl
  ·rintro b g' ⟨o,nm,qn,e,q⟩ hbC
   exact ⟨o,nm,qn,kp.1 _ _ hbC (fun q=>by rw [q,hIn] at e; exact nS e) e,q⟩
 ·rintro s₁ ⟨hx,kp⟩ h' ea hk he
  replace hx:bY row .start=none:=hx
  obtain ⟨led1,t1⟩:=h1.take
  refine hP hx _ ea led1 t1 he ?_
  exact {
   base:=r.base
   zin:=fun a o e=>hk _ _ (kp.1 a o (by rintro rfl; have:=r.dis _ h1.mem; rw [this] at e; exact nS e) (by rintro rfl; have:=r.zin _ _ e; rw [hIn] at this; exact nS this) (r.zin a o e))
   on:=fun p hp=>by
    have hp0:=t1.sub.subset hp
    obtain ⟨o,e,h⟩:=r.on p hp0
    exact ⟨o,hk _ _ (kp.1 _ _ (t1.ne r.nod p hp) (fun q=>by rw [q,hIn] at e; exact nS e) e),h⟩
   dis:=fun p hp=>r.dis p (t1.sub.subset hp)
   nod:=(t1.sub.map _).nodup r.nod
   gens:=⟨by
    refine (?_:AllBare (s₁.gens.setIfInBounds g _))
    refine rP kp.2.1 ?_; exact AllBare.set (AllBare.set r.gens.1 bO g) cO g,fun G' e=>by rw [hc] at e; exact nS e⟩
   os:=kp.2.2.trans r.os }
end
end
section
section
variable {c:Cst}{A:Around}{s:Shared}
theorem nr {elt tgt iter:Expr}{scope:Scope}{pos:Pos}{it acc:Value}{env:Env}{RR:Result->Shared->Prop} (J:Nat->Shared->Prop)
  (turn:∀ n s',J n s'->wpAny c.M A (pyNext it) (fun o s₁=>match o with
   | none=>RR (.ok .next) s₁
   | some v=>wpAny c.M A (letOwnedTupleGo tgt it v) (fun u_ s₂=>wpAny c.M A (assign tgt env v) (fun u_ s₃=>wpAny c.M A (eval elt env) (fun y s₄=>
     wpAny c.M A (call (.builtin "list.append") [acc,y]) (fun u_ s₅=>∃ m,m<n/\J m s₅) noE s₄) noE s₃) noE s₂) noE s₁) noE s')
  (n:Nat) (h:J n s):codeAny c.M A (.compLoop (.ListComp elt [⟨tgt,iter,[],0⟩] scope pos) 0 it acc env) RR s:=by
 refine codeAny_loop rfl J (fun n s' hI=>?_) n h
 refine (?_:wpAny _ A ((compTurn (.ListComp elt [⟨tgt,iter,[],0⟩] scope pos) 0 it acc env).onRaise (fun x=>do noteFrame x _; theTreesLotGoes x)) _ _ s')
 refine wpAny_noted ?_
 refine rP (compTurn_list1 _ _ _ _ _ _ _ _) ?_
 refine aa (wpAny_standAt (aa (ac (turn n s' hI) (fun o s₁ h₁=>?_) noE.im)))
 induction o with
 | none=>exact ab h₁
 | some v=>
  refine aa (ac h₁ (fun u_ s₂ h₂=>?_) noE.im)
  refine aa (ac h₂ (fun u_ s₃ h₃=>?_) noE.im)
  refine aa (aa (ac h₃ (fun y s₄ h₄=>?_) noE.im))
  refine aa (ac h₄ (fun u_ s₅ h₅=>?_) noE.im)
  exact ab (ab ⟨rfl,h₅⟩)
end
end
end Mine.Internal
end
section
open PySem PySem.W PyProof.Rows
namespace Mine.Internal
section
noncomputable def Row (c:Cst) (A:Around) (o:D) (ds:List D):Prop:=∀ (led:Led) (Q:D->Led->Prop),(∀ I,Q (.ref I) ((I,.it ds)::led))->Itr c A o led Q
section
variable {c:Cst}{A:Around}{env:Env}{led:Led}
theorem Row.lst {ds:List D}:Row c A (.lst ds) ds:=fun u_ u_ h=>Itr.lst h
theorem Row.tup {ds:List D}:Row c A (.tup ds) ds:=fun u_ u_ h=>Itr.tup h
theorem Row.rng {n:Nat} (h:n<=1000000):Row c A (.rng 0 (n:Int)) ((List.range n).map fun j:Nat=>.int (j:Int)):=fun u_ u_ h=>Itr.rng (by decide) (by decide) (by exact iN rfl) (by omega) fun I=>by
 have e:rngL 0 (n:Int)=(List.range n).map fun j:Nat=>.int (j:Int):=by
  unfold rngL
  refine rP (show ((n:Int) - 0).toNat=n by rfl) ?_
  exact aP fun j u_=>by exact rP (Int.zero_add _) rfl
 refine rP e ?_; exact h I
inductive CoOk {α:Type} (c:Cst) (A:Around) (env:Env) (scope:Scope) (cl:List (Str×Addr)) (elt tgt:Expr) (ifs:List Expr) (g:α->D) (p:α->Bool) (f:α->D) (xs:List α) (P:D->Prop) (F:Led->Prop) (d:D) (led₁:Led):Prop
 | mk:P d->xs.length<=sizeLine->(∀ acc out I rest x,x∈xs->dm c A env scope cl elt tgt ifs ((acc,.lst out)::(I,.it rest)::led₁) (g x) (p x) (f x))->F led₁->CoOk c A env scope cl elt tgt ifs g p f xs P F d led₁
inductive CrOk (c:Cst) (A:Around) (env:Env) (scope:Scope) (cl:List (Str×Addr)) (elt tgt:Expr) (ifs:List Expr) (p:Nat->Bool) (f:Nat->D) (n:Nat) (F:Led->Prop) (d:D) (led₁:Led):Prop
 | mk:d = .rng 0 (n:Int)->n<=1000000->(∀ acc out I rest x,x<n->dm c A env scope cl elt tgt ifs ((acc,.lst out)::(I,.it rest)::led₁) (.int (x:Int)) (p x) (f x))->F led₁->CrOk c A env scope cl elt tgt ifs p f n F d led₁
theorem Ev.compO {elt tgt iter:Expr}{ifs:List Expr}{scope:Scope}{pos:Pos}{cl:List (Str×Addr)}{α:Type}{g:α->D}{p:α->Bool}{f:α->D}{xs:List α}{Q:D->Led->Prop} (hh:A.handled=none)
  (hclos:closureFor scope env=pure cl) (hkind:scope.kind = .function) (hnames:∀ x∈scope.names,x.2 = .local->scope.names.lookup x.1=some .local)
  (hs:∀ x,foldedSetIterable iter env x=pure x)
  (h:Ev c A env iter led (CoOk c A env scope cl elt tgt ifs g p f xs (fun d=>Row c A d (xs.map g)) (Q (.lst ((xs.filter p).map f))))):Ev c A env (.ListComp elt [⟨tgt,iter,ifs,0⟩] scope pos) led Q:=by
 refine Ev.comp (g:=g) (xs:=xs) (p:=p) (f:=f) hclos hkind hnames hs (h.mono ?_)
 rintro d l ⟨hr,hz,ht,hq⟩
 exact hr _ _ fun I=>⟨I,_,_,l,rfl,Cur.it hh _ I,Slf.it I,rfl,hz,fun u_ u_ u_ u_=>trivial,fun acc out rest x hx=>ht acc out I rest x hx,hq⟩
theorem Ev.compL {elt tgt iter:Expr}{ifs:List Expr}{scope:Scope}{pos:Pos}{cl:List (Str×Addr)}{α:Type}{g:α->D}{p:α->Bool}{f:α->D}{xs:List α}{Q:D->Led->Prop} (hh:A.handled=none)
  (hclos:closureFor scope env=pure cl) (hkind:scope.kind = .function) (hnames:∀ x∈scope.names,x.2 = .local->scope.names.lookup x.1=some .local)
  (hs:∀ x,foldedSetIterable iter env x=pure x)
  (h:Ev c A env iter led (CoOk c A env scope cl elt tgt ifs g p f xs (· = .lst (xs.map g)) (Q (.lst ((xs.filter p).map f))))):Ev c A env (.ListComp elt [⟨tgt,iter,ifs,0⟩] scope pos) led Q:=
 Ev.compO hh hclos hkind hnames hs (h.mono fun u_ u_ x=>x.casesOn fun e a b q=>⟨e ▸ .lst,a,b,q⟩)
theorem Ev.compR {elt tgt iter:Expr}{ifs:List Expr}{scope:Scope}{pos:Pos}{cl:List (Str×Addr)}{n:Nat}{p:Nat->Bool}{f:Nat->D}{Q:D->Led->Prop} (hh:A.handled=none)
  (hclos:closureFor scope env=pure cl) (hkind:scope.kind = .function) (hnames:∀ x∈scope.names,x.2 = .local->scope.names.lookup x.1=some .local)
  (hs:∀ x,foldedSetIterable iter env x=pure x)
  (h:Ev c A env iter led (CrOk c A env scope cl elt tgt ifs p f n (Q (.lst (((List.range n).filter p).map f))))):Ev c A env (.ListComp elt [⟨tgt,iter,ifs,0⟩] scope pos) led Q:=
 Ev.compO (xs:=List.range n) (g:=fun j:Nat=>.int (j:Int)) hh hclos hkind hnames hs (h.mono fun u_ u_ x=>x.casesOn fun e hz t q=>⟨e ▸ .rng hz,by refine rP aM (rP ai ?_); exact nD hz rfl,fun acc out I rest x hx=>t acc out I rest x (List.mem_range.mp hx),q⟩)
noncomputable def jx (days:List (Int×Int)):D:=.lst (days.map fun p=>.tup [.int p.1,.int p.2])
noncomputable def dy (days:List (Int×Int)) (r:Nat):Int×Int:=days.getD r (0,0)
theorem cq {r n:Nat}:jN (r:Int) n=r:=by unfold jN; refine rP (aY (by exact aW _)) ?_; rfl
theorem Ev.day0 {v sl:Expr}{k:_}{p1 p2 p3:Pos}{days:List (Int×Int)}{Q:D->Led->Prop} (hs:eC sl) (hz:days.length<=100)
  (h:Ev c A env v led (IS (jx days) (kV c A env sl (IX days.length fun r=>Q (.int (dy days r).1))))) :
  Ev c A env (.Subscript (.Subscript v sl p1) (.Constant (.int (Int.ofNat 0)) k p2) p3) led Q:=by
 refine Ev.sub (Ev.sub (h.mono ?_))
 rintro _ l ⟨rfl,h⟩
 refine h.mono ?_
 rintro _ l ⟨r,rfl,hr,q⟩
 refine Sub.lst (d:=.tup [.int (dy days r).1,.int (dy days r).2]) hs (by exact szM hz rfl) (by exact iM) (by refine rP (am _) ?_; exact iT hr) (by refine rP cq (rP aK (rP (ao hr) ?_)); unfold dy; refine rP aF (rP (ao hr) ?_); rfl) ?_
 exact Ev.cn 0 (Sub.tup (d:=.int (dy days r).1) (fun u_ u_=>rfl) (by refine rP ai ?_; show 2<=_; decide) (by show -((2:Nat):Int)<=_; decide) (by show _<((2:Nat):Int); decide) rfl q)
theorem Ev.day1 {v sl:Expr}{k:_}{p1 p2 p3:Pos}{days:List (Int×Int)}{Q:D->Led->Prop} (hs:eC sl) (hz:days.length<=100)
  (h:Ev c A env v led (IS (jx days) (kV c A env sl (IX days.length fun r=>Q (.int (dy days r).2))))) :
  Ev c A env (.Subscript (.Subscript v sl p1) (.Constant (.int (Int.ofNat 1)) k p2) p3) led Q:=by
 refine Ev.sub (Ev.sub (h.mono ?_))
 rintro _ l ⟨rfl,h⟩
 refine h.mono ?_
 rintro _ l ⟨r,rfl,hr,q⟩
 refine Sub.lst (d:=.tup [.int (dy days r).1,.int (dy days r).2]) hs (by exact szM hz rfl) (by exact iM) (by refine rP (am _) ?_; exact iT hr) (by refine rP cq (rP aK (rP (ao hr) ?_)); unfold dy; refine rP aF (rP (ao hr) ?_); rfl) ?_
 exact Ev.cn 1 (Sub.tup (d:=.int (dy days r).2) (fun u_ u_=>rfl) (by refine rP ai ?_; show 2<=_; decide) (by show -((2:Nat):Int)<=_; decide) (by show _<((2:Nat):Int); decide) rfl q)
end
end
end Mine.Internal
end
section
open PySem PySem.W PySem.F PyProof.Rows
namespace Mine.Internal
section
noncomputable def cX (l r:List Int):List (Nat×Int)->Int
 | []=>0
 | k::ks=>if l.getD k.1 0<r.getD k.1 0 then -k.2 else if l.getD k.1 0>r.getD k.1 0 then k.2 else cX l r ks
noncomputable abbrev sSel:Str:=⟨⟨[99,111,109,112,95,115,101,108,101,99,116,95,108,105,115,116]⟩⟩
noncomputable def keyD (ks:List (Nat×Int)):List D:=ks.map fun k=>.tup [.int k.1,.int k.2]
structure eF (c:Cst) (C:Addr) (x:Str):Prop where
 g:plainGet c.K C x=true
 h:hasDictIn c.K C=true
 f:findIn c.K (.ref C) x=some none
section
variable {c:Cst}{A:Around}{led:Led}{Q:D->Led->Prop}{a:Addr}{fd:FuncData}
theorem FnAt.bind3 {t:Txt} (F:FnAt c a t fd){x y z:Str}{d e g:D} (h:∀ v u w,gJ t.pars [v,u,w] [(x,v),(y,u),(z,w)]) (Z:HP) (s:Shared) (vs:List Value) (r:R c Z led s) (av:AVs c.w Z vs [d,e,g]) :
  ∃ l,BindsTo s fd ⟨vs,[]⟩ l/\Binds c.w Z l [(x,d),(y,e),(z,g)]:=av.cons' fun v vs av az=>az.two' fun u w au aw=>⟨[(x,v),(y,u),(z,w)],.of_eq (F.bindEq (h v u w)),.cons av (.cons au (.cons aw .nil))⟩
theorem kU {l:List Int}{m:List D}{k:Nat} (h:k<l.length):(l.map D.int++m)[jN (k:Int) (l.map D.int++m).length]? = some (.int (l.getD k 0)):=by
 have e:jN (k:Int) (l.map D.int++m).length=k:=by unfold jN; simp
 refine rP e (rP (List.getElem?_append_left (by simpa using h)) (rP aK (rP (ao h) (rP aF (rP (ao h) ?_))))); rfl
inductive V11 (ks:List (Nat×Int)) (l r:List Int) (ml mr:List D) (C:Addr) (led:Led) (ds:List D) (led':Led):Prop
 | mk (ks':List (Nat×Int)) (m:List (Str×D)):ds=keyD ks'->led'=(C,.ns m)::led->m.lookup ⟨⟨[108,101,102,116]⟩⟩=some (.tup (l.map .int++ml))->m.lookup ⟨⟨[114,105,103,104,116]⟩⟩=some (.tup (r.map .int++mr))->cX l r ks'=cX l r ks->(∀ k∈ks',k.1<l.length/\k.1<r.length)->V11 ks l r ml mr C led ds led'
theorem w11 (ok:c.Ok) (hA:Aok A 2) (F:FnAt c a m11cmp.1 fd){Cl dx:Addr} (K:eF c Cl sSel){kvs:List (Str×D)} (hm:At led dx (.dic kvs)) (ks:List (Nat×Int)) (hk:cM kvs sSel=some (.tup (keyD ks)))
  (l r:List Int) (ml mr:List D) (hl:l.length+ml.length<=100) (hr:r.length+mr.length<=100) (hks:∀ k∈ks,k.1<l.length/\k.1<r.length) (h:Q (.int (cX l r ks)) led):Cc c A (.ref a) [.obj (instObj Cl dx),.tup (l.map .int++ml),.tup (r.map .int++mr)] led Q:=by
 refine F.call ok hA (F.bind3 (x:=⟨⟨[115,101,108,102]⟩⟩) (y:=⟨⟨[108,101,102,116]⟩⟩) (z:=⟨⟨[114,105,103,104,116]⟩⟩) fun v u w=>fun u_ u_ u_ u_ u_ u_ u_ u_ u_ u_ u_ u_=>rfl) rfl rfl ?_
 intro C A' hA'
 refine Sto.lo rfl rfl .h (Sto.lo rfl rfl .h (Sto.lo rfl rfl .h ?_))
 refine Exs.co (Ex.for_ (fun u_=>rfl) (Ev.att rfl (Ev.lo rfl rfl .h rfl rfl (Gat.own ok K.g K.h K.f rfl (.t hm) hk rfl (Itr.tup fun I=>?_)))))
 refine ⟨I,_,_,_,_,rfl,Cur.it hA'.hh _ I,rfl,V11 ks l r ml mr C led,⟨ks,_,rfl,rfl,rfl,rfl,rfl,hks⟩,fun u_ u_ u_=>trivial,?_,?_⟩
 ·rintro d rest led' ⟨ks',m,e,rfl,h1,h2,h3,h4⟩
  induction ks' using List.casesOn with
  | nil=>exact cN' e
  | cons k ks'=>
   cases e
   obtain ⟨b1,b2⟩:=h4 k (.head _)
   refine Asg.tup hA'.hh rfl rfl (Asg.lo rfl rfl (.t .h) (Asg.lo rfl rfl (.t .h) ?_))
   refine Exs.co (Ex.asg rfl (Ev.sub (Ev.lo rfl rfl (.t .h) h1 rfl (Ev.lo rfl rfl (.t .h) rfl rfl (Sub.tup (fun u_ u_=>rfl) (by refine rP ai ?_; simp; exact nD hl rfl) (by simp; lia) (by simp; exact iltA b1) (kU b1) (Asg.lo rfl rfl (.t .h) ?_))))))
   refine Exs.co (Ex.asg rfl (Ev.sub (Ev.lo rfl rfl (.t .h) h2 rfl (Ev.lo rfl rfl (.t .h) rfl rfl (Sub.tup (fun u_ u_=>rfl) (by refine rP ai ?_; simp; exact nD hr rfl) (by simp; lia) (by simp; exact iltA b2) (kU b2) (Asg.lo rfl rfl (.t .h) ?_))))))
   replace h3:(if l.getD k.1 0<r.getD k.1 0 then -k.2 else if l.getD k.1 0>r.getD k.1 0 then k.2 else cX l r ks')=cX l r ks:=h3
   refine Exs.co (Ex.ite (Tst.cmp rfl (Ev.lo rfl rfl (.t .h) rfl rfl (Ev.lo rfl rfl (.t .h) rfl rfl (Cmp.ltI ⟨_,rfl,?_⟩)))))
   by_cases q:l.getD k.1 0<r.getD k.1 0
   ·refine ifT (by simpa using q) ?_
    rw [aY q] at h3
    refine Exs.co (Ex.ret (Ev.una (Ev.lo rfl rfl (.t .h) rfl rfl (Una.negI ⟨_,.h,_,.drop .rest,?_⟩))))
    refine rP h3 ?_; exact h
   refine ifF (by simpa using q) ?_
   rw [aX q] at h3
   refine Exs.ni (Exs.co (Ex.ite (Tst.cmp rfl (Ev.lo rfl rfl (.t .h) rfl rfl (Ev.lo rfl rfl (.t .h) rfl rfl (Cmp.gtI ⟨_,rfl,?_⟩))))))
   by_cases q:l.getD k.1 0>r.getD k.1 0
   ·refine ifT (by simpa using q) ?_
    rw [aY q] at h3
    refine Exs.co (Ex.ret (Ev.lo rfl rfl (.t .h) rfl rfl ⟨_,.h,_,.drop .rest,?_⟩))
    refine rP h3 ?_; exact h
   refine ifF (by simpa using q) ?_
   rw [aX q] at h3
   exact Exs.ni (Exs.ni ⟨_,.h,ks',_,rfl,rfl,h1,h2,h3,fun k hk=>h4 k (.tail _ hk)⟩)
 rintro led' ⟨ks',m,e,rfl,h1,h2,h3,h4⟩
 induction ks' using List.casesOn with
 | cons r rs=>exact nC e
 | nil=>
 refine Exs.co (Ex.ret (Ev.cn 0 ⟨_,.drop .rest,?_⟩))
 refine rP (show (0:Int)=cX l r ks from h3) ?_
 exact h
end
end
end Mine.Internal
end
section
open PySem PySem.W PyProof.Rows
namespace Mine.Internal
section
noncomputable def Wd (f r ch:Nat):Str:=⟨(List.replicate f 32++ch::List.replicate r 32).toArray⟩
theorem eG (f r ch:Nat):(Wd f r ch).cps.toList=List.replicate f 32++ch::List.replicate r 32:=rfl
theorem Wd_len (f r ch:Nat):(Wd f r ch).cps.toList.length=f+1+r:=by
 refine rP (eG _ _ _) (rP aH (rP aJ (rP List.length_replicate (rP List.length_replicate (rP (Nat.add_comm r 1) ?_))))); exact (Nat.add_assoc _ _ _).symm
theorem bI (f r ch:Nat):(Wd f r ch).length=f+1+r:=Wd_len f r ch
theorem iu {f r ch:Nat} (hf:f<=100) (hr:r<=100):(Wd f r ch).length<=sizeLine:=by
 refine rP (bI _ _ _) (rP ai ?_); exact nD (aQ (aB hf) hr) rfl
theorem Wd_in {f r ch i:Nat} (h:i<f+1+r):-((Wd f r ch).length:Int)<=(i:Int)/\(i:Int)<(Wd f r ch).length:=⟨iM,by refine rP (bI _ _ _) ?_; exact iT h⟩
theorem ke {x:Str}{i:Nat}{n:Nat} (h:x.cps.toList[i]? = some n):Txt.item x (i:Int)=⟨#[n]⟩:=by
 unfold Txt.item
 have:Txt.charAt x (i:Int)=some n:=StrLaws.at_nonneg (aW _) (by refine rP (Int.toNat_natCast _) ?_; simpa using h)
 refine rP this ?_; rfl
theorem Wd_front {f r ch i:Nat} (h:i<f):Txt.item (Wd f r ch) (i:Int)=⟨#[32]⟩:=ke (by exact rP (eG _ _ _) (rP (List.getElem?_append_left (by simpa using h)) (rP List.getElem?_replicate (rP (aY h) rfl))))
theorem Wd_at {f r ch i:Nat}:(Wd f r ch).cps.toList[f+i]? = (ch::List.replicate r 32)[i]?:=by
 have e:f+i=(List.replicate f 32).length+i:=by exact rP List.length_replicate rfl
 exact rP (eG _ _ _) (rP e (rP (List.getElem?_append_right (aD _ _)) (rP (Nat.add_sub_cancel_left _ _) rfl)))
theorem Wd_mid {f r ch:Nat}:Txt.item (Wd f r ch) (f:Int)=⟨#[ch]⟩:=ke (Wd_at (i:=0))
theorem Wd_rear {f r ch p:Nat} (h:p<r):Txt.item (Wd f r ch) ((f+(p+1):Nat):Int)=⟨#[32]⟩:=ke (Wd_at.trans (by exact rP List.getElem?_cons_succ (rP List.getElem?_replicate (rP (aY h) rfl))))
theorem nt {α:Type} (a b:List α) (n:Nat):(a++b).take (a.length+n)=a++b.take n:=by
 exact rP List.take_append (rP (List.take_of_length_le (aD _ _)) (rP (Nat.add_sub_cancel_left _ _) rfl))
theorem slice_Wd {g r ch a p:Nat} (h:p<=r):Txt.slice (Wd (a+g) r ch) (some (a:Int)) (some ((a+g+p+1:Nat):Int))=Wd g p ch:=by
 have hb:a+g+p+1<=a+g+1+r:=by refine rP (ba _ p 1) ?_; exact Nat.add_le_add_left h _
 refine (StrLaws.sliceText_plain (x:=Wd (a+g) r ch) ⟨aW _,iL (Nat.le_trans (aD a (g+p+1)) (aq (by exact rQ (Nat.add_assoc _ _ _) (rQ (Nat.add_assoc _ _ _) rfl)))),by refine rP (Wd_len _ _ _) ?_; exact iL hb⟩).trans ?_
 refine rP (Int.toNat_natCast _) (rP (show a+g+p+1=a+(g+(p+1)) from (Nat.add_assoc (a+g) p 1).trans (Nat.add_assoc _ _ _)) (rP (Int.natCast_add _ _) (rP (Int.add_comm _ _) (rP (Int.add_sub_cancel _ _) (rP (Int.toNat_natCast _) (rP (eG _ _ _) (rQ List.replicate_append_replicate (rP (List.append_assoc _ _ _) ?_))))))))
 have e:∀ l:List Nat,(List.replicate a 32++l).drop a=l:=fun l=>List.drop_left' (List.length_replicate ..)
 have k:=nt (List.replicate g 32) (ch::List.replicate r 32) (p+1)
 rw [List.length_replicate] at k
 refine rP (e _) (rP k (rP List.take_succ_cons (rP List.take_replicate (rP (Nat.min_eq_left h) ?_))))
 rfl
section
variable {c:Cst}{A:Around}{led:Led}{Q:D->Led->Prop}{a:Addr}{fd:FuncData}
noncomputable def pads (s:Str) (m l:Nat):List (Str×D):=[(⟨⟨[115]⟩⟩,.str s),(⟨⟨[97,109,111,117,110,116]⟩⟩,.int m),(⟨⟨[108,112,111,115]⟩⟩,.int l)]
theorem ce {α:Type}{P:α->Prop}{a:α}{l:List α} (h:P a) (k:∀ x∈l,P x):∀ x∈a::l,P x:=fun x hx=>(List.mem_cons.mp hx).elim (fun e=>e ▸ h) (k x)
theorem kf {α:Type}{P:α->Prop}:∀ x∈([]:List α),P x:=fun u_ h=>nomatch h
theorem dY (m:Nat):((m+1:Nat):Int) - 1=(m:Int):=by refine rP (Int.natCast_succ _) ?_; exact Int.add_sub_cancel _ _
theorem kW (m:Nat):(((m+1:Nat):Int) != 0)=true:=bne_iff_ne.mpr (Int.ne_of_gt (Int.ofNat_lt.2 (Nat.succ_pos m)))
theorem pad_left {f r n l M p m:Nat} (hn:l+M=n) (hl:l<=f) (c1:M=0\/l=f) (hk:p+M=r+m) (hp:p<=r) (c2:m=0\/p=0):f - l=f - n/\p=r - (n - f):=by
 subst hn
 rcases c1 with rfl | rfl
 ·refine ⟨rfl,?_⟩
  rw [Nat.add_zero] at hk
  refine rP (Nat.add_zero _) (rP (bg hl) ?_)
  exact Nat.le_antisymm hp (hk ▸ aD r m)
 ·refine rP (Nat.sub_self _) (rP (bg (aD _ _)) (rP (Nat.add_sub_cancel_left _ _) ?_))
  rcases c2 with rfl | rfl
  ·exact ⟨rfl,Nat.eq_sub_of_add_eq hk⟩
  ·rw [Nat.zero_add] at hk
   exact ⟨rfl,(bg (hk ▸ aD r m)).symm⟩
inductive S7a (f n:Nat) (s:Str) (C:Addr) (led:Led) (fl:Fl) (l':Led):Prop
 | mk:fl = .next->∀ (l m:Nat),l+m=n->l<=f->(m=0\/l=f)->l'=(C,.ns (pads s m l))::led->S7a f n s C led fl l'
inductive S7b (f r M l:Nat) (s:Str) (C:Addr) (led:Led) (fl:Fl) (l':Led):Prop
 | mk:fl = .next->∀ (p m:Nat),p+M=r+m->p<=r->(m=0\/p=0)->l'=(C,.ns ((⟨⟨[114,112,111,115]⟩⟩,.int ((f+p:Nat):Int))::pads s m l))::led->S7b f r M l s C led fl l'
theorem w07 (ok:c.Ok) (B:Bui c) (hA:Aok A 2) (F:FnAt c a t07.1 fd) (f r ch n:Nat) (hch:ch≠32) (hf:f<=100) (hr:r<=100) (hn:n<=100) (h:Q (.str (Wd (f - n) (r - (n - f)) ch)) led):Cc c A (.ref a) [.str (Wd f r ch),.int n] led Q:=by
 refine F.call ok hA (F.bind2 (x:=⟨⟨[115]⟩⟩) (y:=⟨⟨[97,109,111,117,110,116]⟩⟩) fun v u=>fun u_ u_ u_ u_ u_ u_ u_ u_ u_ u_ u_ u_=>rfl) rfl rfl ?_
 intro C A' hA'
 refine Sto.lo rfl rfl .h (Sto.lo rfl rfl .h ?_)
 refine Exs.co (Ex.asg rfl (Ev.cn 0 (Asg.lo rfl rfl .h ?_)))
 refine Exs.co (Ex.mono (Q':=S7a f n (Wd f r ch) C led) ?_ ?_)
 ·refine Ex.whileW (α:=Nat×Nat) (fun x=>(C,.ns (pads (Wd f r ch) x.2 x.1))::led) (fun x=>x.1+x.2=n/\x.1<=f) (fun x=>x.2) (0,n)
   (.le (.all (ce rfl (ce rfl (ce rfl kf)))) .rest) ⟨Nat.zero_add _,aO _⟩ fun x hx=>?_
  obtain ⟨l,m⟩:=x
  refine Tst.bop (Tall.consA (Tst.val rfl (Ev.lo rfl rfl .h rfl rfl (Tru.int ?_))))
  induction m using Nat.casesAuxOn with
  | zero=>exact ⟨rfl,l,0,hx.1,hx.2,.inl rfl,rfl⟩
  | succ m=>
   refine rP (kW _) (ifT rfl ?_)
   refine Tall.consA (Tst.cmp rfl (Ev.sub (Ev.lo rfl rfl .h rfl rfl (Ev.lo rfl rfl .h rfl rfl ?_))))
   have hi:=Wd_in (f:=f) (r:=r) (ch:=ch) (i:=l) (Nat.lt_of_lt_of_le (Nat.lt_succ_of_le hx.2) (aD _ _))
   refine Sub.strI (fun u_ u_=>rfl) (iu hf hr) hi.1 hi.2 (Ev.cstr (Cmp.eqS ⟨_,rfl,?_⟩))
   rcases Nat.lt_or_eq_of_le hx.2 with q2 | q2
   ·refine rP (Wd_front q2) (ifT (by decide) ?_)
    refine Tall.nilA (Exs.co (Ex.augN (Ldn.loc rfl rfl .h rfl (Ev.cn 1 (Inp.addI (Sto.lo rfl rfl .h ?_))))))
    refine Exs.co (Ex.augN (Ldn.loc rfl rfl .h rfl (Ev.cn 1 (Inp.subI (Sto.lo rfl rfl .h ?_)))))
    refine rP (dY _) ?_
    exact Exs.ni ⟨(l+1,m),Nat.lt_succ_self m,⟨(ba _ _ _).trans hx.1,q2⟩,.le (.all (ce rfl (ce rfl (ce rfl kf)))) .rest⟩
   ·cases q2
    refine rP (show Txt.item (Wd l r ch) ((l,m+1).1:Int)=_ from Wd_mid) (ifF (by simpa using hch) ?_)
    exact ⟨rfl,l,m+1,hx.1,hx.2,.inr rfl,rfl⟩
 rintro _ _ ⟨rfl,l,M,e1,hl,c1,rfl⟩
 refine Exs.co (Ex.asg rfl (Ev.bi (Ev.ca rfl rfl (Ev.bui ok rfl rfl rfl rfl B.len'.1 B.len'.2 rfl ?_))))
 refine Evs.co rfl (Ev.lo rfl rfl .h rfl rfl (Evs.ni ⟨.bui,?_⟩))
 refine Cl.lenS (iu hf hr) (Ev.cn 1 (Bin.subI (Asg.lo rfl rfl .h ?_)))
 refine rP (bI _ _ _) (rP (ba f 1 r) (rP (dY _) ?_))
 refine Exs.co (Ex.mono (Q':=S7b f r M l (Wd f r ch) C led) ?_ ?_)
 ·refine Ex.whileW (α:=Nat×Nat) (fun x=>(C,.ns ((⟨⟨[114,112,111,115]⟩⟩,.int ((f+x.1:Nat):Int))::pads (Wd f r ch) x.2 l))::led) (fun x=>x.1+M=r+x.2/\x.1<=r) (fun x=>x.2) (r,M)
   .rest ⟨rfl,aC _⟩ fun x hx=>?_
  obtain ⟨p,m⟩:=x
  refine Tst.bop (Tall.consA (Tst.val rfl (Ev.lo rfl rfl .h rfl rfl (Tru.int ?_))))
  induction m using Nat.casesAuxOn with
  | zero=>exact ⟨rfl,p,0,hx.1,hx.2,.inl rfl,rfl⟩
  | succ m=>
   refine rP (kW _) (ifT rfl ?_)
   refine Tall.consA (Tst.cmp rfl (Ev.sub (Ev.lo rfl rfl .h rfl rfl (Ev.lo rfl rfl .h rfl rfl ?_))))
   have hi:=Wd_in (f:=f) (r:=r) (ch:=ch) (i:=f+p) (by refine rP (ba _ _ _) ?_; exact Nat.lt_succ_of_le (Nat.add_le_add_left hx.2 f))
   refine Sub.strI (fun u_ u_=>rfl) (iu hf hr) hi.1 hi.2 (Ev.cstr (Cmp.eqS ⟨_,rfl,?_⟩))
   induction p using Nat.casesAuxOn with
   | succ p=>
    refine rP (show Txt.item (Wd f r ch) ((f+(p+1):Nat):Int)=_ from Wd_rear hx.2) (ifT (by decide) ?_)
    refine Tall.nilA (Exs.co (Ex.augN (Ldn.loc rfl rfl .h rfl (Ev.cn 1 (Inp.subI (Sto.lo rfl rfl .h ?_))))))
    refine Exs.co (Ex.augN (Ldn.loc rfl rfl .h rfl (Ev.cn 1 (Inp.subI (Sto.lo rfl rfl .h ?_)))))
    refine rP (dY _) (rP (show ((f+(p+1):Nat):Int) - 1=((f+p:Nat):Int) from dY (f+p)) ?_)
    exact Exs.ni ⟨(p,m),Nat.lt_succ_self m,⟨Nat.succ.inj ((ba _ _ _).trans hx.1),Nat.le_of_lt hx.2⟩,.le (.all (ce rfl (ce rfl (ce rfl (ce rfl kf))))) .rest⟩
   | zero=>
    refine rP (show Txt.item (Wd f r ch) ((f+0:Nat):Int)=_ from Wd_mid) (ifF (by simpa using hch) ?_)
    exact ⟨rfl,0,m+1,hx.1,aO _,.inr rfl,rfl⟩
 rintro _ _ ⟨rfl,p,m,hk,hp,c2,rfl⟩
 refine Exs.co (Ex.ret (Ev.sub (Ev.lo rfl rfl .h rfl rfl (Ev.slice (Part.of_some (Ev.lo rfl rfl .h rfl rfl ⟨_,rfl,Part.of_some (Ev.bi (Ev.lo rfl rfl .h rfl rfl (Ev.cn 1 (Bin.addI ⟨_,rfl,Part.of_none ?_⟩))))⟩))))))
 refine Sub.strS (fun u_ u_=>⟨_,rfl⟩) (iu hf hr) ?_
 obtain ⟨e2,e3⟩:=pad_left e1 hl c1 hk hp c2
 obtain ⟨g,rfl⟩:=Nat.exists_eq_add_of_le hl
 refine rP (show ((l+g+p:Nat):Int)+1=((l+g+p+1:Nat):Int) from rfl) (rP (slice_Wd hp) ?_)
 rw [Nat.add_sub_cancel_left] at e2
 rw [<- e2,<- e3] at h
 exact ⟨_,.drop .rest,h⟩
end
end
end Mine.Internal
end
section
open PySem PySem.W PySem.F PyProof.Rows
namespace Mine.Internal
section
noncomputable def iD (kvs:List (Str×Int)):List (Str×D):=kvs.map fun p=>(p.1,.int p.2)
noncomputable def iget (l:List (Str×Int)) (k:Str):Option Int:=l.lookup k
noncomputable def ff (l:List (Str×Int)) (k:Str) (d:Int):List (Str×Int):=if l.any (fun p=>p.1 == k) then l.map (fun p=>if p.1 == k then (p.1,d) else p) else l++[(k,d)]
noncomputable def kY (l:List (Str×Int)) (p:Str×Int):List (Str×Int):=ff l p.1 ((iget l p.1).getD 0+p.2)
noncomputable def addC (t s:List (Str×Int)):List (Str×Int):=s.foldl kY (t.foldl (fun m p=>ff m p.1 p.2) [])
theorem kg (l:List (Str×Int)) (k:Str):cM (iD l) k=(iget l k).map .int:=by
 unfold cM iget iD
 induction l with
 | nil=>rfl
 | cons p l ih=>
  refine rP aA (rP aS ?_)
  obtain ⟨a,b⟩:=p
  refine rP aS ?_
  by_cases q:k == a
  ·refine rP q ?_; rfl
  ·rw [Bool.not_eq_true] at q; refine rP q ?_; exact ih
theorem fQ (l:List (Str×Int)) (k:Str) (d:Int):fy (iD l) k (.int d)=iD (ff l k d):=by
 unfold fy ff iD
 refine rP List.any_map ?_
 have e:((fun p:Str×D=>p.1 == k)∘fun p:Str×Int=>(p.1,D.int p.2))=fun p=>p.1 == k:=rfl
 refine rP e ?_
 split
 ·refine rP aG (rP aG ?_)
  refine aP fun p u_=>?_
  refine (?_:(if (p.1 == k)=true then _ else _)=((if (p.1 == k)=true then (p.1,d) else p).1,D.int (if (p.1 == k)=true then (p.1,d) else p).2))
  split <;> rfl
 ·refine rP aI ?_; rfl
theorem cx (l:List (Str×Int)) (k:Str) (d:Int):(ff l k d).length<=l.length+1:=by
 unfold ff
 split
 ·refine rP (am _) ?_; exact aD _ _
 ·simp
theorem cY (l:List (Str×Int)):(iD l).length=l.length:=by unfold iD; simp
section
variable {c:Cst}{A:Around}{led:Led}{Q:D->Led->Prop}{a:Addr}{fd:FuncData}
inductive V13a (tgt src:List (Str×Int)) (M C:Addr) (led:Led) (ds:List D) (l:Led):Prop
 | mk (rs:List (Str×Int)) (kvs:List (Str×Int)) (m:List (Str×D)):ds=(iD rs).map (fun p=>.tup [.str p.1,p.2])->l=(M,.dic (iD kvs))::(C,.ns m)::led->m.lookup ⟨⟨[110,101,119,95,99,97,108,108,101,114,115]⟩⟩=some (.ref M)->m.lookup ⟨⟨[115,111,117,114,99,101]⟩⟩=some (.dic (iD src))->rs.foldl (fun m p=>ff m p.1 p.2) kvs=tgt.foldl (fun m p=>ff m p.1 p.2) []->kvs.length+rs.length<=tgt.length->V13a tgt src M C led ds l
inductive V13b (tgt src:List (Str×Int)) (M C:Addr) (led:Led) (ds:List D) (l:Led):Prop
 | mk (rs:List (Str×Int)) (kvs:List (Str×Int)) (m:List (Str×D)):ds=(iD rs).map (fun p=>.tup [.str p.1,p.2])->l=(M,.dic (iD kvs))::(C,.ns m)::led->m.lookup ⟨⟨[110,101,119,95,99,97,108,108,101,114,115]⟩⟩=some (.ref M)->rs.foldl kY kvs=addC tgt src->kvs.length+rs.length<=tgt.length+src.length->V13b tgt src M C led ds l
theorem w13 (ok:c.Ok) (B:Bui c) (hA:Aok A 2) (F:FnAt c a t13.1 fd) (tgt src:List (Str×Int)) (hz:tgt.length+src.length<=1000) (h:Q (.dic (iD (addC tgt src))) led):Cc c A (.ref a) [.dic (iD tgt),.dic (iD src)] led Q:=by
 refine F.call ok hA (F.bind2 (x:=⟨⟨[116,97,114,103,101,116]⟩⟩) (y:=⟨⟨[115,111,117,114,99,101]⟩⟩) fun v u=>fun u_ u_ u_ u_ u_ u_ u_ u_ u_ u_ u_ u_=>rfl) rfl rfl ?_
 intro C A' hA'
 refine Sto.lo rfl rfl .h (Sto.lo rfl rfl .h ?_)
 refine Exs.co (Ex.asg rfl (Ev.dicM fun M=>Asg.lo rfl rfl (.t .h) ?_))
 refine Exs.co (Ex.for_ (fun u_=>rfl) ?_)
 refine Ev.meth rfl rfl rfl rfl (Ev.lo rfl rfl (.t .h) rfl rfl (Mth.dic slot_dict_items rfl (Evs.ni ⟨.bui,Cl.items (Itr.its fun I=>?_)⟩)))
 refine ⟨I,_,_,_,_,rfl,Cur.itI hA'.hh _ _ _ I,rfl,V13a tgt src M C led,⟨tgt,[],_,rfl,rfl,rfl,rfl,rfl,by simp⟩,fun u_ u_ u_=>trivial,?_,?_⟩
 ·rintro d rest l ⟨rs,kvs,m,e,rfl,h1,h2,h3,h4⟩
  induction rs using List.casesOn with
  | nil=>exact cN' e
  | cons r rs=>
   cases e
   refine Asg.tup hA'.hh rfl rfl (Asg.lo rfl rfl (.t (.t .h)) (Asg.lo rfl rfl (.t (.t .h)) ?_))
   refine Exs.co (Ex.asgS rfl (Ev.lo rfl rfl (.t (.t .h)) rfl rfl (Ev.lo rfl rfl (.t (.t .h)) h1 rfl (Ev.lo rfl rfl (.t (.t .h)) rfl rfl (Sit.dic (.t .h) (by refine rP (cY _) (rP ai ?_); rw [aJ] at h4; exact nD (nT (nR h4) (nR hz)) rfl) ?_)))))
   refine rP (fQ _ _ _) ?_
   refine Exs.ni ⟨_,.h,rs,ff kvs r.1 r.2,_,rfl,rfl,h1,h2,h3,?_⟩
   have:=cx kvs r.1 r.2
   rw [aJ] at h4; exact gro h4 (by assumption)
 rintro l ⟨rs,kvs,m,e,rfl,h1,h2,h3,h4⟩
 induction rs using List.casesOn with
 | cons r rs=>exact nC e
 | nil=>
 replace h3:kvs=tgt.foldl (fun m p=>ff m p.1 p.2) []:=h3
 refine Exs.co (Ex.for_ (fun u_=>rfl) ?_)
 refine Ev.meth rfl rfl rfl rfl (Ev.lo rfl rfl (.t .h) h2 rfl (Mth.dic slot_dict_items rfl (Evs.ni ⟨.bui,Cl.items (Itr.its fun I=>?_)⟩)))
 refine ⟨I,_,_,_,_,rfl,Cur.itI hA'.hh _ _ _ I,rfl,V13b tgt src M C led,⟨src,kvs,_,rfl,rfl,h1,by refine rP h3 ?_; rfl,by simp at h4; exact Nat.add_le_add_right h4 _⟩,fun u_ u_ u_=>trivial,?_,?_⟩
 ·rintro d rest l ⟨rs,kvs,m,e,rfl,h1,h3,h4⟩
  induction rs using List.casesOn with
  | nil=>exact cN' e
  | cons r rs=>
   cases e
   rw [aJ] at h4
   refine Asg.tup hA'.hh rfl rfl (Asg.lo rfl rfl (.t (.t .h)) (Asg.lo rfl rfl (.t (.t .h)) ?_))
   refine Exs.co (Ex.ite (Tst.cmp rfl (Ev.lo rfl rfl (.t (.t .h)) rfl rfl (Ev.lo rfl rfl (.t (.t .h)) h1 rfl (Cmp.inM ok (.t .h) ⟨_,rfl,?_⟩)))))
   refine rP (kg _ _) ?_
   have hl:=cx kvs r.1 ((iget kvs r.1).getD 0+r.2)
   cases hg:iget kvs r.1 with
   | some k=>
    refine ifT (by rfl) ?_
    refine Exs.co (Ex.ite (Tst.val rfl (Ev.ca rfl rfl (Ev.bui ok rfl rfl rfl rfl B.isinstance'.1 B.isinstance'.2 rfl (Evs.co rfl (Ev.lo rfl rfl (.t (.t .h)) rfl rfl (Evs.co rfl (Ev.bui ok rfl rfl rfl rfl B.tuple'.1 B.tuple'.2 rfl (Evs.ni ⟨.bui,Cl.isiI (Tru.bl ?_)⟩)))))))))
    refine ifF (by decide) ?_
    refine Exs.co (Ex.augS (Ev.lo rfl rfl (.t (.t .h)) h1 rfl (Ev.lo rfl rfl (.t (.t .h)) rfl rfl (Git.dicM (.t .h) (by refine rP (kg _ _) (rP hg ?_); rfl) (Ev.lo rfl rfl (.t (.t .h)) rfl rfl (Inp.addI (Sit.dic (.t .h) (by refine rP (cY _) (rP ai ?_); exact nD (nT (nR h4) hz) rfl) ?_)))))))
    refine rP (fQ _ _ _) ?_
    refine Exs.ni (Exs.ni (Exs.ni ?_))
    have e:ff kvs r.1 (k+r.2)=kY kvs r:=by unfold kY; refine rP hg ?_; rfl
    refine rP e ?_
    exact ⟨_,.h,rs,kY kvs r,_,rfl,rfl,h1,h3,by unfold kY; exact gro h4 (by assumption)⟩
   | none=>
    refine ifF (by decide) ?_
    refine Exs.co (Ex.asgS rfl (Ev.lo rfl rfl (.t (.t .h)) rfl rfl (Ev.lo rfl rfl (.t (.t .h)) h1 rfl (Ev.lo rfl rfl (.t (.t .h)) rfl rfl (Sit.dic (.t .h) (by refine rP (cY _) (rP ai ?_); exact nD (nT (nR h4) hz) rfl) ?_)))))
    refine rP (fQ _ _ _) ?_
    refine Exs.ni (Exs.ni ?_)
    have e:ff kvs r.1 r.2=kY kvs r:=by unfold kY; refine rP hg ?_; show _=ff kvs r.1 (0+r.2); exact rP (Int.zero_add _) rfl
    refine rP e ?_
    exact ⟨_,.h,rs,kY kvs r,_,rfl,rfl,h1,h3,by unfold kY; exact gro h4 (by assumption)⟩
 rintro l ⟨rs,kvs,m,e,rfl,h1,h3,h4⟩
 induction rs using List.casesOn with
 | cons r rs=>exact nC e
 | nil=>
 replace h3:kvs=addC tgt src:=h3
 refine Exs.co (Ex.ret (Ev.frz rfl rfl h1 rfl .h .h frzD ok ⟨_,.drop .rest,?_⟩))
 rw [<- h3] at h
 exact h
end
end
section
structure Ent where
 cc:Int
 nc:Int
 tt:Int
 ct:Int
 by':List (Str×Int)
noncomputable def Ent.d (e:Ent):D:=.tup [.int e.cc,.int e.nc,.int e.tt,.int e.ct,.dic (iD e.by')]
noncomputable def Ent.add (t s:Ent):Ent:=⟨s.cc+t.cc,s.nc+t.nc,s.tt+t.tt,s.ct+t.ct,addC t.by' s.by'⟩
section
variable {c:Cst}{A:Around}{led:Led}{Q:D->Led->Prop}{a a13:Addr}{fd fd13:FuncData}
theorem w12 (ok:c.Ok) (B:Bui c) (hA:Aok A 3) (F:FnAt c a t12.1 fd) (G:FnAt c a13 t13.1 fd13) (g13:c.mg ⟨⟨[97,100,100,95,99,97,108,108,101,114,115]⟩⟩=some (.ref a13)) (t s:Ent) (hz:t.by'.length+s.by'.length<=1000) (h:Q (t.add s).d led):Cc c A (.ref a) [t.d,s.d] led Q:=by
 refine F.call ok hA (F.bind2 (x:=⟨⟨[116,97,114,103,101,116]⟩⟩) (y:=⟨⟨[115,111,117,114,99,101]⟩⟩) fun v u=>fun u_ u_ u_ u_ u_ u_ u_ u_ u_ u_ u_ u_=>rfl) rfl rfl ?_
 intro C A' hA'
 refine Sto.lo rfl rfl .h (Sto.lo rfl rfl .h ?_)
 refine Exs.co (Ex.asgT rfl rfl (Ev.lo rfl rfl .h rfl rfl (Asg.tup hA'.hh rfl rfl (Asg.lo rfl rfl .h (Asg.lo rfl rfl .h (Asg.lo rfl rfl .h (Asg.lo rfl rfl .h (Asg.lo rfl rfl .h ?_))))))))
 refine Exs.co (Ex.asgT rfl rfl (Ev.lo rfl rfl .h rfl rfl (Asg.tup hA'.hh rfl rfl (Asg.lo rfl rfl .h (Asg.lo rfl rfl .h (Asg.lo rfl rfl .h (Asg.lo rfl rfl .h (Asg.lo rfl rfl .h ?_))))))))
 refine Exs.co (Ex.ret (Ev.tup ?_))
 refine Evs.co rfl (Ev.bi (Ev.lo rfl rfl .h rfl rfl (Ev.lo rfl rfl .h rfl rfl (Bin.addI ?_))))
 refine Evs.co rfl (Ev.bi (Ev.lo rfl rfl .h rfl rfl (Ev.lo rfl rfl .h rfl rfl (Bin.addI ?_))))
 refine Evs.co rfl (Ev.bi (Ev.lo rfl rfl .h rfl rfl (Ev.lo rfl rfl .h rfl rfl (Bin.addI ?_))))
 refine Evs.co rfl (Ev.bi (Ev.lo rfl rfl .h rfl rfl (Ev.lo rfl rfl .h rfl rfl (Bin.addI ?_))))
 refine Evs.co rfl (G.ev ok g13 rfl rfl rfl rfl rfl rfl (Evs.co rfl (Ev.lo rfl rfl .h rfl rfl (Evs.co rfl (Ev.lo rfl rfl .h rfl rfl (Evs.ni ?_))))))
 refine w13 ok B hA' G t.by' s.by' hz (Evs.ni ⟨by refine rP ai ?_; simp,_,.drop .rest,h⟩)
end
end
section
structure Wo where
 f:Nat
 r:Nat
 ch:Nat
noncomputable def Wo.s (w:Wo):Str:=Wd w.f w.r w.ch
noncomputable def sg (ch:Nat):Str:=Wd 0 0 ch
noncomputable def Wo.Ok (w:Wo):Prop:=w.ch≠32/\w.f<=20/\w.r<=20
noncomputable def cr (b:List (Str×Ent)):List (Str×D):=b.map fun p=>(p.1,p.2.d)
noncomputable def cf (ws:List Wo):List (Str×Int):=ws.foldl (fun m w=>ff m (sg w.ch) 1) []
section
variable {c:Cst}{A:Around}{led:Led}{Q:D->Led->Prop}{a a7:Addr}{fd fd7:FuncData}
noncomputable abbrev gP:Str:=⟨⟨[95,115,116,114,105,112,95,112,97,100,100,105,110,103]⟩⟩
theorem w07s (ok:c.Ok) (B:Bui c) (hA:Aok A 2) (G:FnAt c a7 t07.1 fd7) (w:Wo) (hw:w.Ok) (h:Q (.str (sg w.ch)) led):Cc c A (.ref a7) [.str w.s,.int ((w.s.length:Int) - 1)] led Q:=by
 have e:((w.s.length:Int) - 1)=((w.f+w.r:Nat):Int):=by unfold Wo.s; refine rP (bI _ _ _) ?_; lia
 refine rP e ?_
 refine w07 ok B hA G w.f w.r w.ch (w.f+w.r) hw.1 (by have:=hw.2.1; exact nD this rfl) (by have:=hw.2.2; exact nD this rfl) (by have:=hw.2.1; have:=hw.2.2; lia) ?_
 refine rP (show w.f - (w.f+w.r)=0 by exact asc2) (rP (show w.r - (w.f+w.r - w.f)=0 by exact asc0) ?_)
 exact h
theorem FnAt.bind4 {t:Txt}{fd:FuncData} (F:FnAt c a t fd){x y z x2:Str}{d e g d2:D} (h:∀ v u w v2,gJ t.pars [v,u,w,v2] [(x,v),(y,u),(z,w),(x2,v2)]) (Z:HP) (s:Shared) (vs:List Value) (r:R c Z led s) (av:AVs c.w Z vs [d,e,g,d2]) :
  ∃ l,BindsTo s fd ⟨vs,[]⟩ l/\Binds c.w Z l [(x,d),(y,e),(z,g),(x2,d2)]:=av.cons' fun v vs av az=>az.cons' fun u vs au az=>az.two' fun w v2 aw a2=>⟨[(x,v),(y,u),(z,w),(x2,v2)],.of_eq (F.bindEq (h v u w v2)),.cons av (.cons au (.cons aw (.cons a2 .nil)))⟩
theorem kh {env:Env}{x:Str}{p1 p2 p3 p4 p5 p6 p7 p8:Pos}{m:List (Str×D)} (ok:c.Ok) (B:Bui c) (hA:Aok A 2) (G:FnAt c a7 t07.1 fd7) (g7:c.mg gP=some (.ref a7)) (w:Wo) (hw:w.Ok)
  (hk:env.scope.kind = .function) (hl1:env.kindOf gP=some .globalImplicit) (hl2:env.kindOf ⟨⟨[108,101,110]⟩⟩=some .globalImplicit) (hgl:env.globals=mainGlobals) (hb:env.builtins=builtinsNs)
  (hl:env.kindOf x=some .local) (hm:At led env.locals (.ns m)) (hx:m.lookup x=some (.str w.s)) (hd:(x == ("__debug__" : Str))=false) (h:Q (.str (sg w.ch)) led) :
  Ev c A env (.Call (.Name gP p1) [.Name x p2,.BinOp (.Call (.Name ⟨⟨[108,101,110]⟩⟩ p3) [.Name x p4] [] p5) .Sub (.Constant (.int (Int.ofNat 1)) 0 p6) p7] [] p8) led Q:=by
 refine G.ev ok g7 rfl rfl hk hl1 hgl rfl (Evs.co rfl (Ev.lo hk hl hm hx hd (Evs.co rfl (Ev.bi (Ev.ca rfl rfl (Ev.bui ok hk hl2 hgl hb B.len'.1 B.len'.2 rfl (Evs.co rfl (Ev.lo hk hl hm hx hd (Evs.ni ⟨.bui,Cl.lenS ?_ (Ev.cn 1 (Bin.subI (Evs.ni ?_)))⟩)))))))))
 ·have:=hw.2.1; have:=hw.2.2; unfold Wo.s; refine rP (bI _ _ _) (rP ai ?_); lia
 ·exact w07s ok B hA G w hw h
theorem Ev.bit {env:Env}{b:Bool}{k1 k2:_}{p1 p2:Pos} (h:Q (.int (if b then 1 else 0)) led):if b=true then Ev c A env (.Constant (.int (Int.ofNat 1)) k1 p1) led Q else Ev c A env (.Constant (.int (Int.ofNat 0)) k2 p2) led Q:=by
 cases b
 ·exact Ev.cn 0 h
 ·exact Ev.cn 1 h
theorem Oth.up {o:D}{ds:List D}{p:Addr×Ch} (x:Oth led o ds):Oth (p::led) o ds:=x.imp id fun ⟨l,e,h⟩=>⟨l,e,.t h⟩
theorem nu (ws:List Wo):∀ m:List (Str×Int),(ws.foldl (fun m w=>ff m (sg w.ch) 1) m).length<=m.length+ws.length:=by
 induction ws with
 | nil=>intro m; simp
 | cons w ws ih=>intro m; refine rP List.foldl_cons (rP aJ ?_); have:=ih (ff m (sg w.ch) 1); have:=cx m (sg w.ch) 1; lia
noncomputable def old (b:List (Str×Ent)) (k:Str):Ent:=(b.lookup k).getD ⟨0,0,0,0,[]⟩
noncomputable def newE (w:Wo) (ws:List Wo) (hour:Int):Ent:=⟨if w.s == sg w.ch then 1 else 0,1,ws.length,(if w.s == sg w.ch then 1 else 0)*(hour+1),cf ws⟩
theorem lV (b:List (Str×Ent)) (k:Str):(cM (cr b) k).getD (.tup [.int 0,.int 0,.int 0,.int 0,.dic []])=(old b k).d:=by
 unfold cM cr old
 induction b with
 | nil=>rfl
 | cons p l ih=>
  obtain ⟨x,y⟩:=p
  refine rP aA (rP aS (rP aS ?_))
  by_cases q:k == x
  ·refine rP q ?_; rfl
  ·rw [Bool.not_eq_true] at q; refine rP q ?_; exact ih
inductive V21 (w:Wo) (ws:List Wo) (hour:Int) (o:D) (Bk M C:Addr) (led:Led) (ds:List D) (l:Led):Prop
 | mk (rs:List Wo) (kvs:List (Str×Int)) (m:List (Str×D)):ds=rs.map (fun w:Wo=>D.str w.s)->l=(M,.dic (iD kvs))::(C,.ns m)::led->m.lookup ⟨⟨[99,97,108,108,101,114,115]⟩⟩=some (.ref M)->(m.lookup ⟨⟨[98,111,111,107]⟩⟩=some (.ref Bk)/\m.lookup ⟨⟨[104,111,117,114]⟩⟩=some (.int hour)/\m.lookup ⟨⟨[111,118,101,114]⟩⟩=some (.int (if w.s == sg w.ch then 1 else 0))/\m.lookup ⟨⟨[115,105,103,110]⟩⟩=some (.str (sg w.ch))/\m.lookup ⟨⟨[111,116,104,101,114,115]⟩⟩=some (o))->rs.foldl (fun m w=>ff m (sg w.ch) 1) kvs=cf ws->rs <:+ ws->kvs.length+rs.length<=ws.length->V21 w ws hour o Bk M C led ds l
theorem w21 {a12 a13 Bk:Addr}{fd fd12 fd13:FuncData} (ok:c.Ok) (B:Bui c) (hA:Aok A 4) (F:FnAt c a t21.1 fd) (G:FnAt c a7 t07.1 fd7) (g7:c.mg gP=some (.ref a7)) (G12:FnAt c a12 t12.1 fd12) (g12:c.mg ⟨⟨[97,100,100,95,102,117,110,99,95,115,116,97,116,115]⟩⟩=some (.ref a12))
  (G13:FnAt c a13 t13.1 fd13) (g13:c.mg ⟨⟨[97,100,100,95,99,97,108,108,101,114,115]⟩⟩=some (.ref a13)) (w:Wo) (hw:w.Ok) (ws:List Wo) (hws:∀ w∈ws,w.Ok) (hz:ws.length<=100) (hour:Int){o:D} (x:Oth led o (ws.map fun w=>.str w.s))
  (b:List (Str×Ent)){led':Led} (u:Up led Bk (.dic (cr b)) (.dic (fy (cr b) (sg w.ch) ((old b (sg w.ch)).add (newE w ws hour)).d)) led') (hbz:b.length<=100) (hcz:(old b (sg w.ch)).by'.length<=500) (h:Q .none led'):Cc c A (.ref a) [.ref Bk,.int hour,.str w.s,o] led Q:=by
 refine F.call ok hA (F.bind4 (x:=⟨⟨[98,111,111,107]⟩⟩) (y:=⟨⟨[104,111,117,114]⟩⟩) (z:=⟨⟨[114,101,115,116]⟩⟩) (x2:=⟨⟨[111,116,104,101,114,115]⟩⟩) fun v u w v2=>fun u_ u_ u_ u_ u_ u_ u_ u_ u_ u_ u_ u_=>rfl) rfl rfl ?_
 intro C A' hA'
 refine Sto.lo rfl rfl .h (Sto.lo rfl rfl .h (Sto.lo rfl rfl .h (Sto.lo rfl rfl .h ?_)))
 refine Exs.co (Ex.asg rfl (kh ok B (hA'.le (by decide)) G g7 w hw rfl rfl rfl rfl rfl rfl .h rfl rfl (Asg.lo rfl rfl .h ?_)))
 refine Exs.co (Ex.asg rfl (Ev.ifx (Tst.cmp rfl (Ev.lo rfl rfl .h rfl rfl (Ev.lo rfl rfl .h rfl rfl (Cmp.eqS ⟨_,rfl,?_⟩))))))
 refine Ev.bit (Asg.lo rfl rfl .h ?_)
 refine Exs.co (Ex.asg rfl (Ev.dicM fun M=>Asg.lo rfl rfl (.t .h) ?_))
 refine Exs.co (Oth.for_ (all:=ws.map fun w=>.str w.s) hA'.hh (fun u_=>rfl) x.up.up (Ev.lo rfl rfl (.t .h) rfl rfl ⟨rfl,x.up.up,V21 w ws hour o Bk M C led,⟨ws,[],_,rfl,rfl,rfl,⟨rfl,rfl,rfl,rfl,rfl⟩,rfl,List.suffix_refl _,by simp⟩,?_,?_,?_⟩))
 ·rintro ds l ⟨rs,kvs,m,rfl,rfl,h1,hL,h2,h3,h4⟩
  exact ⟨x.up.up,h3.map _⟩
 ·rintro d rest l I X ⟨rs,kvs,m,e,rfl,h1,hL,h2,h3,h4⟩
  induction rs using List.casesOn with
  | nil=>exact cN' e
  | cons r rs=>
   cases e
   have hr:r∈ws:=h3.subset (.head _)
   refine Asg.lo rfl rfl (.t (.t .h)) ?_
   refine Exs.co (Ex.asgS rfl (Ev.cn 1 (Ev.lo rfl rfl (.t (.t .h)) h1 rfl (kh ok B (hA'.le (by decide)) G g7 r (hws r hr) rfl rfl rfl rfl rfl rfl (.t (.t .h)) rfl rfl (Sit.dic (.t .h) (by refine rP (cY _) (rP ai ?_); exact nD (nT (nR h4) hz) rfl) ?_)))))
   refine rP (fQ _ _ _) ?_
   refine Exs.ni ⟨_,.h,rs,ff kvs (sg r.ch) 1,_,rfl,rfl,h1,hL,h2,(List.suffix_cons _ _).trans h3,?_⟩
   have:=cx kvs (sg r.ch) 1
   rw [aJ] at h4; exact gro h4 (by assumption)
 rintro l ⟨rs,kvs,m,e,rfl,h1,⟨l1,l2,l3,l4,l5⟩,h2,h3,h4⟩
 induction rs using List.casesOn with
 | cons r rs=>exact nC e
 | nil=>
 replace h2:kvs=cf ws:=h2
 subst h2
 refine Exs.co (Ex.asg rfl (Ev.tup (Evs.co rfl (Ev.lo rfl rfl (.t .h) l3 rfl (Evs.co rfl (Ev.cn 1 (Evs.co rfl (Ev.ca rfl rfl (Ev.bui ok rfl rfl rfl rfl B.len'.1 B.len'.2 rfl (Evs.co rfl (Ev.lo rfl rfl (.t .h) l5 rfl (Evs.ni ⟨.bui,Oth.len x.up.up (by refine rP ai ?_; simp; exact nD hz rfl) ?_⟩)))) ))))))))
 refine rP (am _) ?_
 refine Evs.co rfl (Ev.bi (Ev.lo rfl rfl (.t .h) l3 rfl (Ev.bi (Ev.lo rfl rfl (.t .h) l2 rfl (Ev.cn 1 (Bin.addI (Bin.mulI (by split <;> decide) (by split <;> decide) ?_)))))))
 refine Evs.co rfl (Ev.frz rfl rfl h1 rfl .h .h frzD ok (Evs.ni ⟨by refine rP ai ?_; simp,Asg.lo rfl rfl .h ?_⟩))
 have hcl:(cf ws).length<=100:=by have:=nu ws []; unfold cf; simp at this; exact nT this hz
 refine Exs.co (Ex.asgS rfl (G12.ev ok g12 rfl rfl rfl rfl rfl rfl (Evs.co rfl (Ev.meth rfl rfl rfl rfl (Ev.lo rfl rfl .h l1 rfl (Mth.dicM (.t u.at) slot_dict_get rfl (Evs.co rfl (Ev.lo rfl rfl .h l4 rfl (Evs.co rfl (Ev.tup (Evs.co rfl (Ev.cn 0 (Evs.co rfl (Ev.cn 0 (Evs.co rfl (Ev.cn 0 (Evs.co rfl (Ev.cn 0 (Evs.co rfl (Ev.dic0 ok (Evs.ni ⟨by rw [ai]; simp,Evs.ni ⟨.bui,Cl.get2 ok (.t u.at) ?_⟩⟩)))))))))))))))))))))
 refine rP (lV _ _) ?_
 refine Evs.co rfl (Ev.lo rfl rfl .h rfl rfl (Evs.ni (w12 ok B (hA'.le (by exact aC _)) G12 G13 g13 (old b (sg w.ch)) (newE w ws hour) (by show _+(cf ws).length<=1000; exact nD (aQ hcz hcl) rfl) ?_)))
 refine Ev.lo rfl rfl .h l1 rfl (Ev.lo rfl rfl .h l4 rfl (Sit.dic (.t u) (by unfold cr; refine rP (am _) (rP ai ?_); exact nD hbz rfl) ?_))
 exact Exs.ni ⟨_,.drop .rest,h⟩
end
end
end Mine.Internal
end
section
open PySem PySem.W PyProof.Rows
namespace Mine.Internal
section
section
variable {c:Cst}{A:Around}{env:Env}{led:Led}{Z:HP}{s:Shared}
theorem wpEq0 {a b:Addr}{vs:List Value}{n n2:Nat}{l:List D}{Q:D->Led->Prop} (r:R c Z led s) (ea:s.heap.get? a=some (ci vs n)) (eb:s.heap.get? b=some (ci [] n2)) (av:AVs c.w Z vs l)
  (hu:A.units<cLine) (h:Q (.bool l.isEmpty) led):wpAny c.M A (compareOp .Eq (.ref a) (.ref b)) (P1 c Z Q) noE s:=by
 induction l using List.casesOn with
 | nil=>
  have av:=av.length
  have e:vs=[]:=List.eq_nil_of_length_eq_zero av
  subst e
  exact PySem.SeqAt.RcAt.lists (A:=A) (e:=fun u_=>true) (bx ea) (bx eb) rfl hu (fun j h1 h2=>absurd h1 (Nat.not_lt_zero _)) c.prog c.w noE (P1 c Z Q) (jc r h)
 | cons d l=>
  have av:=av.length
  exact PySem.SeqAt.RcAt.lists_lengths (A:=A) (bx ea) (bx eb) (by refine rP aE (rP av ?_); simp) hu c.prog c.w noE (P1 c Z Q) (jc r h)
theorem Cmp.eq0 {l:List D}{Q:D->Led->Prop} (hu:A.units<cLine) (h:Q (.bool l.isEmpty) led):Cmp c A .Eq (.lst l) (.lst []) led Q:=fun Z s v u r x y=>x.lst' fun a vs na ea av=>y.lst' fun b us nb eb bv=>bv.nil' (L:=fun us=>Z b=some (ci us nb)->_) (fun eb=>wpEq0 r (r.zin _ _ ea) (r.zin _ _ eb) av hu h) eb
theorem Row.rng2 {lo hi:Int} (ha:-(2 ^ 62)<=lo) (ha':lo<2 ^ 62) (hb:-(2 ^ 62)<=hi) (hb':hi<2 ^ 62):Row c A (.rng lo hi) ((List.range (hi - lo).toNat).map fun j:Nat=>.int (lo+(j:Int))):=fun u_ u_ h=>Itr.rng ha ha' hb hb' h
theorem Ex.asgCompO {x:Str}{px spos:Pos}{elt tgt iter:Expr}{ifs:List Expr}{scope:Scope}{pos:Pos}{cl:List (Str×Addr)}{α:Type}{g:α->D}{p:α->Bool}{f:α->D}{xs:List α}{Q:Fl->Led->Prop} (hh:A.handled=none)
  (hsw:swapsWith (.ListComp elt [⟨tgt,iter,ifs,0⟩] scope pos) (some (.Name x px)) spos.line env=pure true)
  (hl:env.kindOf x=some .local) (hp:(env.scope.kind == .class || (env.scope.kind == .module && env.locals != env.globals))=false)
  (hclos:closureFor scope env=pure cl) (hkind:scope.kind = .function) (hnames:∀ x∈scope.names,x.2 = .local->scope.names.lookup x.1=some .local)
  (hs:∀ x,foldedSetIterable iter env x=pure x)
  (h:Ev c A env iter led (CoOk c A env scope cl elt tgt ifs g p f xs (fun d=>Row c A d (xs.map g)) (UpQ env.locals x (.lst ((xs.filter p).map f)) (Q .next)))):Ex c A env (.Assign [.Name x px] (.ListComp elt [⟨tgt,iter,ifs,0⟩] scope pos) spos) led Q:=by
 refine Ex.asgComp (g:=g) (xs:=xs) (p:=p) (f:=f) hsw hl hp hclos hkind hnames hs (h.mono ?_)
 rintro d l ⟨hr,hz,ht,hq⟩
 exact hr _ _ fun I=>⟨I,_,_,l,rfl,Cur.it hh _ I,Slf.it I,rfl,hz,fun u_ u_ u_ u_=>trivial,fun acc out rest x hx=>ht acc out I rest x hx,hq⟩
inductive FrOk (c:Cst) (A:Around) (env:Env) (tgt:Expr) (body:List Stmt) (ds:List D) (Q:Fl->Led->Prop) (d:D) (led₁:Led):Prop
 | mk:Row c A d ds->(inv:List D->Led->Prop)->inv ds led₁->(∀ d rest l I,inv (d::rest) l->Asg c A env tgt d ((I,.it rest)::l) fun l₂=>Exs c A env body l₂ (hK Q I (.it rest) (inv rest)))->(∀ l,inv [] l->Q .next l)->FrOk c A env tgt body ds Q d led₁
theorem Ex.forO {tgt iter:Expr}{body:List Stmt}{pos:Pos}{Q:Fl->Led->Prop}{ds:List D} (hh:A.handled=none) (hs:∀ x,foldedSetIterable iter env x=pure x)
  (h:Ev c A env iter led (FrOk c A env tgt body ds Q)):Ex c A env (.For tgt iter body [] pos) led Q:=by
 refine Ex.for_ hs (h.mono ?_)
 rintro d l ⟨hr,inv,h0,h1,h2⟩
 exact hr _ _ fun I=>⟨I,_,_,ds,l,rfl,Cur.it hh _ I,rfl,inv,h0,fun u_ u_ u_=>trivial,fun d rest l hi=>h1 d rest l I hi,h2⟩
theorem Ev.at {v sl:Expr}{p3:Pos}{n:Nat}{rk:Nat->D}{Q:D->Led->Prop} (hs:eC sl) (hz:n<=100)
  (h:Ev c A env v led (IS (.lst ((List.range n).map rk)) (kV c A env sl (IX n fun r=>Q (rk r))))) :
  Ev c A env (.Subscript v sl p3) led Q:=by
 refine Ev.sub (h.mono ?_)
 rintro _ l ⟨rfl,h⟩
 refine h.mono ?_
 rintro _ l ⟨r,rfl,hr,q⟩
 exact Sub.lst (d:=rk r) hs (by refine rP (am _) (rP aM (rP ai ?_)); exact nD hz rfl) (by exact iM) (by refine rP (am _) (rP aM ?_); exact iT hr) (by refine rP cq (rP aK (rP (List.getElem?_range hr) ?_)); rfl) q
end
noncomputable def signs:List Nat:=[34,92,35,10]
noncomputable def gch (j:Nat):Nat:=signs.getD j 0
theorem lW {j:Nat} (h:j<4):Txt.item ⟨⟨[34,92,35,10]⟩⟩ (j:Int)=sg (gch j):=by
 have:j=0\/j=1\/j=2\/j=3:=by exact or4 h
 rcases this with rfl | rfl | rfl | rfl <;> decide +kernel
section
variable {c:Cst}{A:Around}{env:Env}{led:Led}
theorem Ev.sign {sl:Expr}{k:_}{p2 p3:Pos}{Q:D->Led->Prop} (hs:eC sl) (h:Ev c A env sl led (IX 4 fun r=>Q (.str (sg (gch r))))) :
  Ev c A env (.Subscript (.Constant (.str ⟨⟨[34,92,35,10]⟩⟩) k p2) sl p3) led Q:=by
 refine Ev.sub (Ev.cstr (h.mono ?_))
 rintro _ l ⟨r,rfl,hr,q⟩
 refine Sub.strI hs (by rw [ai]; decide) (by show -((4:Nat):Int)<=_; exact iN rfl) (by show _<((4:Nat):Int); exact iT hr) ?_
 refine rP (lW hr) ?_; exact q
end
end
section
section
variable {c:Cst}{A:Around}{env:Env}{led:Led}{Z:HP}{s:Shared}
theorem AVs.times {w:World}{vs:List Value}{ds:List D} (h:AVs w Z vs ds):∀ n:Nat,AVs w Z (List.replicate n vs).flatten (List.replicate n ds).flatten
 | 0=>.nil
 | n+1=>by
  refine rP List.replicate_succ (rP List.replicate_succ (rP List.flatten_cons (rP List.flatten_cons ?_)))
  exact h.append (h.times n)
theorem fS (vs:List Value):∀ (n:Nat) (acc:Array Value),List.foldl (fun x1 x2=>x1++x2) acc (List.replicate n vs.toArray)=acc++((List.replicate n vs).flatten).toArray
 | 0,acc=>by simp
 | n+1,acc=>by
  refine rP List.replicate_succ (rP List.foldl_cons (rP (fS vs n _) (rP List.replicate_succ (rP List.flatten_cons ?_))))
  simp
theorem nv (l:Addr) (vs:Array Value) (k:Nat) (x:Int)  (u:Tok) (h1:0<=x) (h3:x<=1000) (h2:vs.size*x.toNat<=1000000):Meets (Builtin.«list.__mul__» ⟨[.ref l,.int x u],[]⟩) (fun u_ R s=>s.heap.get? l=some { cls:=.type "list",dict:=none,data:=.seq vs k,slots:=#[] }/\R (.ok (.ret (Value.ref s.heap.objs.size))) { s with heap:=s.heap.push { cls:=Value.type "list",data:=Data.seq (List.foldl (fun x1 x2=>x1++x2) #[] (List.replicate (if vs.isEmpty=true then 0 else x.toNat) vs)) },toks:=s.toks }):=by
 apply AutoListH.list___mul___list_int_3
 ·simp only [Builtin.List.listFitsIndex,Bool.not_eq_true',Bool.not_eq_false,Bool.and_eq_true,decide_eq_true_eq]; exact ⟨(Int.le_trans (by decide) h1),(bo h3 (by decide))⟩
 ·exact Nat.not_lt_of_le (nD h2 rfl)
 ·simp [Builtin.List.listTooLong,sizeLine]; exact nD h2 rfl
theorem Bin.mulL {a:List D}{x:Int}{n:Nat}{Q:D->Led->Prop} (hx:x=(n:Int)) (hn:n<=1000) (ha:a.length<=1000) (h0:a≠[]) (h:Q (.lst (List.replicate n a).flatten) led):Bin c A .Mult (.lst a) (.int x) led Q:=fun Z s u_ u_ r w y=>w.lst' fun l vs k e av=>y.int' fun u=>by
 have e':=r.zin _ _ e
 have hl:=av.length
 have hne:vs.toArray.isEmpty=false:=by
  induction vs using List.casesOn with
  | nil=>exact absurd (List.eq_nil_of_length_eq_zero hl.symm) h0
  | cons v vs=>rfl
 have hsz:vs.toArray.size<=1000:=by refine rP aE (rP hl ?_); exact ha
 have hxn:x.toNat=n:=by lia
 have f3:vs.toArray.size*x.toNat<=1000000:=by refine rP hxn ?_; exact Nat.mul_le_mul hsz hn
 refine wpAny_binaryOp_repeat_ref (T:="list") (U:="int") (by decide) ⟨_,e',rfl⟩ (fun s'=>typeIs_int s' _ u) noFill_list_mul PySem.F.fills_int_mul PySem.F.slot_int_rmul repeat_list PySem.F.slot_int_index.lookup
  (call_meets PySem.F.slot_int_rmul (typeIs_int s _ u) PySem.F.entry_int_rmul (PySem.F.args_int_rmul_2 _ _) (int___rmul___int_list _ u l vs.toArray k)
   ⟨e',rfl,⟨_,e',rfl⟩,call_meets PySem.F.slot_list_mul ⟨_,e',rfl⟩ PySem.F.entry_list_mul (PySem.F.args_list_mul_2 _ _) (nv l vs.toArray k x u (by exact Int.le_trans (aW _) (Int.le_of_eq hx.symm)) (by exact Int.le_trans (Int.le_of_eq hx) (iL hn)) f3) ⟨e',?_⟩⟩)
 have e3:List.foldl (fun x1 x2=>x1++x2) #[] (List.replicate (if vs.toArray.isEmpty=true then 0 else x.toNat) vs.toArray)=((List.replicate n vs).flatten).toArray:=by
  refine rP hne (rP (aX (by decide)) (rP (fS _ _ _) (rP hxn ?_))); simp
 refine rP e3 ?_
 obtain ⟨hz,r2⟩:=r.pushZ (o:=ci (List.replicate n vs).flatten 0) rfl
 exact ⟨_,led,_,hz,r2,.lst HP.sf ((av.times n).mono hz),h⟩
end
end
section
noncomputable def isStop (x:Int):Bool:=x == 0 || x == 127
noncomputable def dB (row:List Int):Nat:=((List.range 4).find? fun k=>isStop (row.getD k 0)).getD 4
theorem stop_mn (p:Nat->Bool):mn ((((List.range 4).filter p).map fun k:Nat=>(k:Int))++[4])=((((List.range 4).find? p).getD 4:Nat):Int):=by
 refine rP (show List.range 4=[0,1,2,3] from rfl) ?_
 simp -iota only [List.filter_cons,List.filter_nil,List.find?_cons,List.find?_nil]
 cases p 0 <;> cases p 1 <;> cases p 2 <;> cases p 3 <;> rfl
theorem stop_le (row:List Int):dB row<=4:=by
 unfold dB
 refine rP (show List.range 4=[0,1,2,3] from rfl) ?_
 simp -iota only [List.find?_cons,List.find?_nil]
 cases isStop (row.getD 0 0) <;> cases isStop (row.getD 1 0) <;> cases isStop (row.getD 2 0) <;> cases isStop (row.getD 3 0) <;> decide
noncomputable def dE (row:List Int):Option (List Int):=
 if dB row=4\/row.getD (dB row) 0=127 then some (row.take (dB row)) else if 0<dB row then some ((row.take (dB row)++List.replicate 4 (row.getD (dB row - 1) 0)).take 4) else none
noncomputable def jy:Option (List Int)->D
 | none=>.none
 | some ns=>.lst (ns.map .int)
theorem ny {row:List Int}{st:Nat} (hz:row.length=4) (h0:0<st) (h4:st<4):pick (row.map D.int) (some ((st:Int) - 1)) (some (st:Int)) none=[.int (row.getD (st - 1) 0)]:=by
 refine l4 (P:=fun row=>pick (row.map D.int) (some ((st:Int) - 1)) (some (st:Int)) none=[.int (row.getD (st - 1) 0)]) hz fun u_ u_ u_ u_=>?_
 rcases or4 h4 with rfl | rfl | rfl | rfl
 ·exact absurd h0 (by decide)
 ·rfl
 ·rfl
 ·rfl
section
variable {c:Cst}{A:Around}{led:Led}{Q:D->Led->Prop}{a:Addr}{fd:FuncData}
theorem w19 (ok:c.Ok) (B:Bui c) (hA:Aok A 2) (F:FnAt c a t19.1 fd) (row:List Int) (hz:row.length=4) (h:Q (jy (dE row)) led):Cc c A (.ref a) [.lst (row.map .int)] led Q:=by
 refine F.call ok hA (F.bind1 (x:=⟨⟨[114,111,119]⟩⟩) fun v=>fun u_ u_ u_ u_ u_ u_ u_ u_ u_ u_ u_ u_=>rfl) rfl rfl ?_
 intro C a1 A' hA'
 refine Sto.cel rfl rfl rfl .h rfl ?_
 have hl:(row.map D.int).length=4:=by exact rP (am _) (rP hz rfl)
 have get:∀ k:Nat,k<4->(row.map D.int)[jN (k:Int) (row.map D.int).length]? = some (.int (row.getD k 0)):=fun k hk=>by
  refine rP cq (rP aK (rP aF (rP (ao (by exact nT hk (aq hz.symm))) ?_))); rfl
 refine Exs.co (Ex.asg rfl (Ev.ca rfl rfl (Ev.bui ok rfl rfl rfl rfl B.min'.1 B.min'.2 rfl (Evs.co rfl (Ev.bi ?_)))))
 refine Ev.compR (n:=4) (p:=fun k=>isStop (row.getD k 0)) (f:=fun k:Nat=>.int (k:Int)) hA'.hh rfl rfl (by decide) (fun u_=>rfl) ?_
 refine Ev.ca rfl rfl (Ev.bui ok rfl rfl rfl rfl B.range'.1 B.range'.2 rfl (Evs.co rfl (Ev.cn 4 (Evs.ni ⟨.typ,Cl.rng1 ⟨rfl,by decide,?_,?_⟩⟩))))
 ·intro acc out I rest x hx C2
  refine Asg.lo rfl rfl .h (Tst.cmp rfl (Ev.sub (Ev.ce rfl rfl rfl (.t (.t (.t .h))) rfl (Ev.lo rfl rfl .h rfl rfl ?_))))
  refine Sub.lst (d:=.int (row.getD x 0)) (fun u_ u_=>rfl) (by refine rP hl (rP ai ?_); decide) (by exact iM) (by exact iT (nT hx (aq hl.symm))) (get x hx) ?_
  refine Ev.tup (Evs.co rfl (Ev.cn 0 (Evs.co rfl (Ev.cn 127 (Evs.ni ⟨by rw [ai]; simp,Cmp.inT (ns:=[0,127]) ⟨_,rfl,?_⟩⟩)))))
  have e:([(0:Int),127].any (· == row.getD x 0))=isStop (row.getD x 0):=by
   unfold isStop
   simp -iota only [List.any_cons,List.any_nil,Bool.or_false]
   exact congr (congrArg _ (Bool.beq_comm)) Bool.beq_comm
  refine ⟨e,?_⟩
  refine gu ?_ ?_
  ·intro _; exact Ev.lo rfl rfl .h rfl rfl ⟨rfl,.le .ns0 .rest⟩
  ·intro _; exact .le .ns0 .rest
 refine rP (show (fun k:Nat=>D.int (k:Int))=D.int∘(fun k:Nat=>(k:Int)) from rfl) (rQ aG ?_)
 refine Ev.lst (Evs.co rfl (Ev.cn 4 (Evs.ni ⟨by rw [ai]; simp,Bin.addL ?_ ?_⟩)))
 ·have:=bi (fun k=>isStop (row.getD k 0)) (List.range 4)
  rw [aM] at this
  refine rP (am _) (rP (am _) (rP List.length_singleton (rP ai ?_))); exact nD (aB this) rfl
 refine rP (show (List.map D.int (List.map (fun k:Nat=>(k:Int)) (List.filter (fun k=>isStop (row.getD k 0)) (List.range 4)))++[D.int 4])=List.map D.int (List.map (fun k:Nat=>(k:Int)) (List.filter (fun k=>isStop (row.getD k 0)) (List.range 4))++[4]) from by rw [aI]; rfl) ?_
 refine Evs.ni ⟨.bui,Cl.minL hA'.hh (by simp -iota) ?_⟩
 refine rP (stop_mn _) ?_
 have hs:(((List.range 4).find? fun k=>isStop (row.getD k 0)).getD 4)=dB row:=rfl
 refine rP hs ?_
 have hle:=stop_le row
 refine Asg.lo rfl rfl (.t .h) ?_
 generalize hst:dB row=st at hle
 refine Exs.co (Ex.ite (Tst.bop (Tall.consO (Tst.cmp rfl (Ev.lo rfl rfl (.t .h) rfl rfl (Ev.cn 4 (Cmp.eqI ⟨_,rfl,?_⟩)))))))
 have tk:pick (row.map D.int) none (some (st:Int)) none=(row.take st).map D.int:=by
  exact rP (mE (by exact aW _)) (rP (show (st:Int).toNat=st by rfl) (rP List.map_take rfl))
 have ret:st=4\/row.getD st 0=127->Exs c A' (fE fd t19.1 a C [(⟨⟨[114,111,119]⟩⟩,a1)]) [Stmt.Return
      (some
       (Expr.Subscript (Expr.Name (Str.mk (Array.mk [114,111,119])) (Pos.mk 167 15 167 18))
        (Expr.Slice none (some (Expr.Name (Str.mk (Array.mk [115,116,111,112])) (Pos.mk 167 20 167 24))) none
         (Pos.mk 167 19 167 24))
        (Pos.mk 167 15 167 25)))
      (Pos.mk 167 8 167 25)] ((a1,.cell (some (.lst (row.map .int))))::(C,.ns [(⟨⟨[115,116,111,112]⟩⟩,.int (st:Int))])::led) (fun f l=>match f with | .next=>Exs c A' (fE fd t19.1 a C [(⟨⟨[114,111,119]⟩⟩,a1)]) (t19.1.body.drop 2) l (bS Q led) | f=>bS Q led f l):=fun hc=>by
  refine Exs.co (Ex.ret (Ev.sub (Ev.ce rfl rfl rfl .h rfl (Ev.slice (Part.of_none (Part.of_some (Ev.lo rfl rfl (.t .h) rfl rfl ⟨_,rfl,Part.of_none ?_⟩)))))))
  refine Sub.lstS (fun u_ u_=>⟨_,rfl⟩) (by refine rP hl (rP ai ?_); decide) (by decide) ?_
  refine rP tk ?_
  refine ⟨_,.drop (.drop .rest),?_⟩
  have e:jy (dE row) = .lst ((row.take st).map .int):=by unfold dE; refine rP hst (rP (aY hc) ?_); rfl
  refine rQ e ?_; exact h
 by_cases e4:st=4
 ·refine ifT (by simp -iota [e4]) ?_
  exact ret (.inl e4)
 ·refine rP (aX fun x:((st:Int) == 4)=true=>e4 (Int.ofNat_inj.mp (beq_iff_eq.mp x))) ?_
  refine Tall.consO (Tst.cmp rfl (Ev.sub (Ev.ce rfl rfl rfl .h rfl (Ev.lo rfl rfl (.t .h) rfl rfl ?_))))
  refine Sub.lst (d:=.int (row.getD st 0)) (fun u_ u_=>rfl) (by refine rP hl (rP ai ?_); decide) iM (iT (nT (Nat.lt_of_le_of_ne hle e4) (aq hl.symm))) (get st (Nat.lt_of_le_of_ne hle e4)) ?_
  refine Ev.cn 127 (Cmp.eqI ⟨_,rfl,?_⟩)
  by_cases e5:row.getD st 0=127
  ·refine ifT (beq_iff_eq.mpr e5) ?_
   exact ret (.inr e5)
  ·refine ifF (fun x=>e5 (beq_iff_eq.mp x)) ?_
   refine Tall.nilO ?_
   refine rP (aX (by decide)) ?_
   refine Exs.ni ?_
   refine Exs.co (Ex.ret (Ev.ifx (Tst.cmp rfl (Ev.lo rfl rfl (.t .h) rfl rfl (Ev.cn 0 (Cmp.gtI ⟨_,rfl,?_⟩))))))
   have he:dE row=if 0<st then some ((row.take st++List.replicate 4 (row.getD (st - 1) 0)).take 4) else none:=by
    unfold dE; exact rP hst (rP (aX (by intro h; cases h <;> contradiction)) rfl)
   refine gu ?_ ?_
   ·intro e6
    have e7:0<st:=Int.ofNat_lt.1 (of_decide_eq_true e6)
    rw [aY e7] at he
    refine Ev.sub (Ev.bi (Ev.sub (Ev.ce rfl rfl rfl .h rfl (Ev.slice (Part.of_none (Part.of_some (Ev.lo rfl rfl (.t .h) rfl rfl ⟨_,rfl,Part.of_none ?_⟩)))))))
    refine Sub.lstS (fun u_ u_=>⟨_,rfl⟩) (by refine rP hl (rP ai ?_); decide) (by decide) ?_
    refine rP tk ?_
    refine Ev.bi (Ev.sub (Ev.ce rfl rfl rfl .h rfl (Ev.slice (Part.of_some (Ev.bi (Ev.lo rfl rfl (.t .h) rfl rfl (Ev.cn 1 (Bin.subI ⟨_,rfl,Part.of_some (Ev.lo rfl rfl (.t .h) rfl rfl ⟨_,rfl,Part.of_none ?_⟩)⟩))))))))
    refine Sub.lstS (fun u_ u_=>⟨_,rfl⟩) (by refine rP hl (rP ai ?_); decide) (by decide) ?_
    refine rP (ny hz e7 (Nat.lt_of_le_of_ne hle e4)) ?_
    refine Ev.cn 4 (Bin.mulL (n:=4) rfl (by decide) (by simp -iota) (by simp -iota) ?_)
    have fl:(List.replicate 4 [D.int (row.getD (st - 1) 0)]).flatten=(List.replicate 4 (row.getD (st - 1) 0)).map .int:=rfl
    refine rP fl ?_
    have l1:(row.take st).length<=4:=by refine rP List.length_take ?_; exact nT (Nat.min_le_left _ _) hle
    refine Bin.addL ?_ ?_
    ·refine rP (am _) (rP (am _) (rP List.length_replicate (rP ai ?_))); exact nD (aQ l1 (aC _)) rfl
    refine rQ aI ?_
    refine Ev.slice (Part.of_none (Part.of_some (Ev.cn 4 ⟨_,rfl,Part.of_none ?_⟩)))
    refine Sub.lstS (fun u_ u_=>⟨_,rfl⟩) (by refine rP (am _) (rP aH (rP List.length_replicate (rP ai ?_))); exact nD (aQ l1 (aC _)) rfl) (by decide) ?_
    refine rP (mE (by decide)) (rQ List.map_take ?_)
    refine ⟨_,.drop (.drop .rest),?_⟩
    have e:jy (dE row) = .lst (((row.take st++List.replicate 4 (row.getD (st - 1) 0)).take (4:Int).toNat).map .int):=by refine rP he ?_; rfl
    refine rQ e ?_; exact h
   ·intro e6
    have e7:¬ 0<st:=fun x=>e6 (be (by exact iT x))
    rw [aX e7] at he
    refine Ev.cnone ⟨_,.drop (.drop .rest),?_⟩
    rw [he] at h
    exact h
end
end
end Mine.Internal
end
section
open PySem PySem.W PySem.F PyProof.Rows
namespace Mine.Internal
section
noncomputable def eU (row:List Int):Nat->GS->List Int
 | 0,_=>[]
 | n+1,st=>match bY row st with
  | none=>[]
  | some p=>p.1::eU row n p.2
theorem iw {row:List Int}{st:GS}{n:Nat}{o:Option (Int×GS)} (h:bY row st=o):eU row (n+1) st=o.elim [] fun p=>p.1::eU row n p.2:=by
 refine (?_:(match bY row st with | none=>[] | some p=>p.1::eU row n p.2)=_)
 refine rP h ?_; cases o <;> rfl
theorem fg {row:List Int}{k:Nat}{l:Option Int}{x:Int} (h:row[k]? = some x) (n:isStop x=false):lR row k l=some (x,.at (k+1) x):=by
 unfold isStop at n
 rw [Bool.or_eq_false_iff,beq_eq_false_iff_ne,beq_eq_false_iff_ne] at n
 unfold lR; refine rP h ?_
 refine (?_:(if x=127 then _ else _)=_)
 exact rP (aX n.2) (rP (aX n.1) rfl)
theorem dZ {x:Int} (h:isStop x=true):x=0\/x=127:=by
 unfold isStop at h
 rw [Bool.or_eq_true,beq_iff_eq,beq_iff_eq] at h
 exact h
theorem stop4 (a b c d:Int):dB [a,b,c,d]=bif isStop a then 0 else bif isStop b then 1 else bif isStop c then 2 else bif isStop d then 3 else 4:=by
 refine (?_:((List.find? (fun k=>isStop ([a,b,c,d].getD k 0)) [0,1,2,3]).getD 4)=_)
 refine rP List.find?_cons (rP List.find?_cons (rP List.find?_cons (rP List.find?_cons ?_)))
 refine (?_:(match isStop a with | true=>_ | false=>match isStop b with | true=>_ | false=>match isStop c with | true=>_ | false=>match isStop d with | true=>_ | false=>_:Option Nat).getD 4=_)
 cases isStop a
 ·cases isStop b
  ·cases isStop c
   ·cases isStop d <;> rfl
   ·rfl
  ·rfl
 ·rfl
theorem ix {row:List Int}{st:Nat} (h:dB row=st):dE row=if st=4\/row.getD st 0=127 then some (row.take st) else if 0<st then some ((row.take st++List.replicate 4 (row.getD (st - 1) 0)).take 4) else none:=by unfold dE; exact rP h rfl
theorem nz {row:List Int} (h4:row.length=4) (h0:row[0]?≠some 0):dE row=some (eU row 4 .start):=by
 revert h0
 refine l4 (P:=fun row=>row[0]?≠some 0->dE row=some (eU row 4 .start)) h4 fun a b c d h0=>?_
 cases na:isStop a with
 | true=>
  rcases dZ na with rfl | rfl
  ·exact absurd rfl h0
  ·rfl
 | false=>
 have g1:eU [a,b,c,d] 4 .start=a::eU [a,b,c,d] 3 (.at 1 a):=iw (show bY _ .start=some (a,.at 1 a) from fg rfl na)
 refine rP g1 ?_
 cases nb:isStop b with
 | true=>
  have s:dB [a,b,c,d]=1:=by refine rP (stop4 _ _ _ _) (rP na (rP nb ?_)); rfl
  refine rP (ix s) ?_
  rcases dZ nb with rfl | rfl <;> rfl
 | false=>
 have g2:eU [a,b,c,d] 3 (.at 1 a)=b::eU [a,b,c,d] 2 (.at 2 b):=iw (show bY _ (.at 1 a)=some (b,.at 2 b) from fg rfl nb)
 refine rP g2 ?_
 cases nc:isStop c with
 | true=>
  have s:dB [a,b,c,d]=2:=by refine rP (stop4 _ _ _ _) (rP na (rP nb (rP nc ?_))); rfl
  refine rP (ix s) ?_
  rcases dZ nc with rfl | rfl <;> rfl
 | false=>
 have g3:eU [a,b,c,d] 2 (.at 2 b)=c::eU [a,b,c,d] 1 (.at 3 c):=iw (show bY _ (.at 2 b)=some (c,.at 3 c) from fg rfl nc)
 refine rP g3 ?_
 cases nd:isStop d with
 | true=>
  have s:dB [a,b,c,d]=3:=by refine rP (stop4 _ _ _ _) (rP na (rP nb (rP nc (rP nd ?_)))); rfl
  refine rP (ix s) ?_
  rcases dZ nd with rfl | rfl <;> rfl
 | false=>
 have g4:eU [a,b,c,d] 1 (.at 3 c)=d::eU [a,b,c,d] 0 (.at 4 d):=iw (show bY _ (.at 3 c)=some (d,.at 4 d) from fg rfl nd)
 have s:dB [a,b,c,d]=4:=by refine rP (stop4 _ _ _ _) (rP na (rP nb (rP nc (rP nd ?_)))); rfl
 refine rP g4 (rP (ix s) ?_)
 rfl
end
section
theorem Take.uniq {l l1 l2:Led}{a:Addr}{x y:Ch} (n:(l.map (·.1)).Nodup) (t1:Take l a x l1) (t2:Take l a y l2):l1=l2:=by
 induction t1 generalizing l2 with
 | h=>
  cases t2 with
  | h=>rfl
  | t t2=>
   rw [aA,List.nodup_cons] at n
   exact absurd (List.mem_map.mpr ⟨_,t2.at.mem,rfl⟩) n.1
 | t t1 ih=>
  rw [aA,List.nodup_cons] at n
  cases t2 with
  | h=>exact absurd (List.mem_map.mpr ⟨_,t1.at.mem,rfl⟩) n.1
  | t t2=>exact rP (ih n.2 t2) rfl
theorem Up.uniq {l l1 l2:Led}{a:Addr}{x y y2:Ch} (n:(l.map (·.1)).Nodup) (t1:Up l a x y l1) (t2:Up l a y2 y l2):l1=l2:=by
 induction t1 generalizing l2 with
 | h=>
  cases t2 with
  | h=>rfl
  | t t2=>
   rw [aA,List.nodup_cons] at n
   exact absurd (List.mem_map.mpr ⟨_,t2.at.mem,rfl⟩) n.1
 | t t1 ih=>
  rw [aA,List.nodup_cons] at n
  cases t2 with
  | h=>exact absurd (List.mem_map.mpr ⟨_,t1.at.mem,rfl⟩) n.1
  | t t2=>exact rP (ih n.2 t2) rfl
section
variable {c:Cst}{A:Around}{Z:HP}{led0:Led}{s:Shared}{row:List Int}{C l ga z TI TO i1 C2 acc:Addr}{g:Nat}{vs:List Value}{nn:Nat}{fd:FuncData}{a:Addr}{out:List D}{nm qn:Value}
noncomputable abbrev genO (g:Nat) (nm qn:Value):Obj:={ cls:=.type "generator",data:=.fields #[.int g 0,nm,qn] }
inductive GInv (c:Cst) (A:Around) (row:List Int) (C l:Addr) (vs:List Value) (nn g:Nat) (fd:FuncData) (a:Addr) (led0:Led) (j:Nat) (st:GS) (gl:Led) (s:Shared):Prop
 | a0:j=0->st = .start->gl=(C,.ns [(sGr,.ref l)])::led0->s.gens[g]? = some (.fresh (.func t06.1.body (gE fd a C)))->GInv c A row C l vs nn g fd a led0 j st gl s
 | a1:1<=j->∀ (I:Addr) (k:Nat) (gs:GenState),gl=(I,.itL l k)::(C,.ns (mOf st))::led0->C≠I->okIx st k->s.gens[g]? = some gs->gst row j=some st->(2<=5 - j->∀ s'',lT c C I l vs nn st s''->gs.Goes c.M A (RG row C I) (YG c row C I l vs nn) (5 - j) (.send .none) s'')->GInv c A row C l vs nn g fd a led0 j st gl s
inductive ZT (c:Cst) (A:Around) (row:List Int) (C l:Addr) (vs:List Value) (nn g:Nat) (fd:FuncData) (a:Addr) (led0:Led) (C2 acc:Addr) (out:List D) (x:Int) (j:Nat) (st':GS) (y:Value) (glA:Led) (s'':Shared):Prop
 | mk:∀ (t:Tok) (gl':Led),y = .int x t->glA=(C2,.ns [])::(acc,.lst out)::gl'->GInv c A row C l vs nn g fd a led0 (j+1) st' gl' s''->ZT c A row C l vs nn g fd a led0 C2 acc out x j st' y glA s''
theorem zipTurn {b0 b1:Value}{j:Nat}{st:GS}{gl:Led}{Q:Option Value->Shared->Prop} (hc:c.gf=none) (ok:c.Ok) (hh:A.handled=none) (hroom:A.in1.depth<recursionLimit) (cm:∃ t,c.mg sCM=some (.int 127 t)) (hvs:∃ xs:List (Int×Tok),vs=xs.map (fun p=>.int p.1 p.2)/\xs.map (·.1)=row) (h4:row.length=4) (h0:row[0]?≠some 0)
  (hTI:Z TI=some (prO (.ref i1) (.ref ga))) (hga:Z ga=some (genO g nm qn)) (hl:Z l=some (ci vs nn)) (hj:j<4)
  (r:R c Z ((z,.obj (zO TI TO .none))::(TO,.obj (prO b0 b1))::(i1,.obj (rgO (j:Int) (4 - (j:Int))))::(C2,.ns [])::(acc,.lst out)::gl) s) (inv:GInv c A.in1.in1 row C l vs nn g fd a led0 j st gl s)
  (hN:bY row st=none->∀ s',R c Z ((C2,.ns [])::(acc,.lst out)::led0) s'->Q none s')
  (hS:∀ x st',bY row st=some (x,st')->∀ (T:Addr) u v Z' gl' s',Z.le Z'->R c Z' ((z,.obj (zO TI TO (rawInt T)))::(TO,.obj (prO u v))::(i1,.obj (rgO ((j+1:Nat):Int) (4 - ((j+1:Nat):Int))))::(C2,.ns [])::(acc,.lst out)::gl') s'->AV c.w Z' (.ref T) (.tup [.int j,.int x])->GInv c A.in1.in1 row C l vs nn g fd a led0 (j+1) st' gl' s'->Q (some (.ref T)) s') :
  wpAny c.M A (pyNext (.ref z)) Q noE s:=by
 have e1:(j:Int)+1=((j+1:Nat):Int):=by rfl
 have e2:4 - (j:Int) - 1=4 - ((j+1:Nat):Int):=by exact Int.sub_sub _ _ _
 have isg:∀ s' led',R c Z led' s'->s'.heap.IsGen ga g:=fun s' led' r'=>⟨_,_,_,r'.zin _ _ hga,rfl,rfl,rfl⟩
 cases hx:bY row st with
 | none=>
  refine zipEndG (glE:=(C2,.ns [])::(acc,.lst out)::led0) hTI r (by lia) (fun s' t r' hgs=>?_) (fun s' r'=>hN hx s' r')
  rcases inv with ⟨rfl,rfl,rfl,hf⟩ | ⟨h1,I,k,gs,rfl,ne,hk,hgs',hst,go⟩
  ·refine kT (fd:=fd) (a:=a) hc ok (by exact hh) hroom cm hvs h4 h0 r' (.t (.t (.t (.t (.t .h))))) hl (isg _ _ r') (by refine rP hgs ?_; exact hf) ?_ ?_
   ·intro I x t st' k' led1 s'' gs' _ _ hx'
    rw [hx] at hx'; exact nS hx'
   ·intro _ s'' ea led1 tk he r''
    refine ⟨ea,rfl,he,?_⟩
    rw [Take.uniq r'.nod tk (.t (.t (.t (.t (.t .h)))))] at r''
    exact r''.weak (.cons .h (.drop (.drop .rest)))
  ·refine kR (n:=5 - j) hc ok (by exact hh) hroom (by omega) (by exact Nat.sub_le _ _) r' (.t (.t (.t (.t (.t (.t .h)))))) (.t (.t (.t (.t (.t .h))))) hk ne hl (isg _ _ r') (by refine rP hgs ?_; exact hgs') (by refine rP (show 5 - (5 - j)=j by exact ss5 hj) ?_; exact hst) (go (by omega)) ?_ ?_
   ·intro x t st' k' led1 led2 s'' gs' hx'
    rw [hx] at hx'; exact nS hx'
   ·intro _ s'' ea led1 led2 t1 t2 he r''
    refine ⟨ea,rfl,he,?_⟩
    have q1:=Take.uniq r'.nod t1 (.t (.t (.t (.t (.t (.t .h))))))
    subst q1
    have n1:=(t1.sub.map (·.1)).nodup r'.nod
    rw [Take.uniq n1 t2 (.t (.t (.t (.t (.t .h)))))] at r''
    exact r''.weak (.cons .h (.drop (.drop .rest)))
 | some p=>
  obtain ⟨x,st'⟩:=p
  refine zipNext hTI r (by omega) (ZT c A.in1.in1 row C l vs nn g fd a led0 C2 acc out x j st') ?_ ?_
  ·intro s' t r' hgs
   rcases inv with ⟨rfl,rfl,rfl,hf⟩ | ⟨h1,I,k,gs,rfl,ne,hk,hgs',hst,go⟩
   ·refine kT (fd:=fd) (a:=a) hc ok (by exact hh) hroom cm hvs h4 h0 r' (.t (.t (.t (.t (.t .h))))) hl (isg _ _ r') (by refine rP hgs ?_; exact hf) ?_ ?_
    ·intro I x' t' st'' k' led1 s'' gs' ne _ hx' u1 r'' hg'' hk' hst' go' _
     rw [hx] at hx'; cases hx'
     rw [Up.uniq r'.nod u1 (.t (.t (.t (.t (.t .h)))))] at r''
     refine ⟨(I,.itL l k')::(C,.ns (mOf st'))::led0 |> fun gl'=>(C2,.ns [])::(acc,.lst out)::gl',r''.weak (.cons (.t .h) (.cons (.t .h) (.cons (.t .h) (.cons (.t .h) (.cons (.t .h) .rest))))),t',_,rfl,rfl,.a1 (aC _) I k' gs' rfl ne hk' hg'' hst' fun u_=>go'⟩
    ·intro hx'
     rw [hx] at hx'; exact sN hx'
   ·refine kR (n:=5 - j) hc ok (by exact hh) hroom (by omega) (by exact Nat.sub_le _ _) r' (.t (.t (.t (.t (.t (.t .h)))))) (.t (.t (.t (.t (.t .h))))) hk ne hl (isg _ _ r') (by refine rP hgs ?_; exact hgs') (by refine rP (show 5 - (5 - j)=j by omega) ?_; exact hst) (go (by omega)) ?_ ?_
    ·intro x' t' st'' k' led1 led2 s'' gs' hx' u1 u2 r'' hg'' hk' hst' go' _
     rw [hx] at hx'; cases hx'
     have q1:=Up.uniq r'.nod u1 (.t (.t (.t (.t (.t (.t .h))))))
     subst q1
     rw [Up.uniq (by refine rP u1.keys ?_; exact r'.nod) u2 (.t (.t (.t (.t (.t .h)))))] at r''
     rw [show 5 - (5 - j - 1)=j+1 by omega] at hst'
     rw [show 5 - j - 1=5 - (j+1) by rfl] at go'
     exact ⟨_,r'',t',_,rfl,rfl,.a1 (Nat.le_add_left _ _) I k' gs' rfl ne hk' hg'' hst' go'⟩
    ·intro hx'
     rw [hx] at hx'; exact sN hx'
  ·rintro y gl' s' s'' T t ⟨t',gl2,rfl,rfl,inv'⟩ hgs hz r''
   rw [e1,e2] at r''
   refine hS x st' hx T _ _ _ gl2 s'' hz r'' (.tup (n:=0) HP.sf (.cons .int (.cons .int .nil))) ?_
   rcases inv' with ⟨q,_,_,_⟩ | ⟨h1,I,k,gs,q1,ne,hk,hg2,hst,go⟩
   ·exact sZ q
   ·exact .a1 h1 I k gs q1 ne hk (rP hgs hg2) hst go
end
end
section
theorem nA:isSubtype (.type "ValueError") (.type "StopIteration")=pure false:=by first | rfl | decide +kernel | kernel_rfl
section
variable {c:Cst}{A:Around}{Z:HP}{led ledr:Led}{s:Shared}{fd:FuncData}{a C I l ga:Addr}{g:Nat}{outer:List Env}{nm qn:Value}
theorem Exc1.at' {e:Addr}{f:Value} (x:Exc1 c Z led e f s):s.TypeIs (.ref e) "ValueError":=by
 obtain ⟨r,hO,oe,vs,T,oT,ts,he,hc,_,_,_,_,_,_,_⟩:=x
 exact ⟨oe,he,hc⟩
theorem Exc1.gens {e:Addr}{f:Value} (hc:c.gf=none) (x:Exc1 c Z led e f s){gs:GenState} (hb:gs.bare=true) (g:Nat):Exc1 c Z led e f (s.setGen g gs):=by
 obtain ⟨r,h0,h1,h2,h3,h4,h5,h6,h7,h8,h9,h10,h11,h12,h13,h14⟩:=x
 exact ⟨⟨r.base,r.zin,r.on,r.dis,r.nod,⟨AllBare.set r.gens.1 hb g,fun G' e=>by rw [hc] at e; exact nS e⟩,r.os⟩,h0,h1,h2,h3,h4,h5,h6,h7,h8,h9,h10,h11,h12,h13,h14⟩
theorem R.setGen (hc:c.gf=none) (r:R c Z led s){gs:GenState} (hb:gs.bare=true) (g:Nat):R c Z led (s.setGen g gs):=
 ⟨r.base,r.zin,r.on,r.dis,r.nod,⟨AllBare.set r.gens.1 hb g,fun G' e=>by rw [hc] at e; exact nS e⟩,r.os⟩
theorem ki (hc:c.gf=none) (ok:c.Ok) (hh:A.handled=none) (hroom:A.depth<recursionLimit) (hfr:A.frames=some outer) (F:Frs ledr outer) (cmx:∃ t,c.mg sCM=some (.int 127 t)) (bv:c.mg sVE=none/\c.mb sVE=some (.type "ValueError")){vs:List Value}{nn:Nat}{row:List Int} (hl:Z l=some (ci vs nn)) (av:AVs c.w Z vs ((0::row).map .int))
  (hga:Z ga=some (genO g nm qn)) (r:R c Z ((C,.ns [(sGr,.ref l)])::ledr) s) (hg:s.gens[g]? = some (.fresh (.func t06.1.body (gE fd a C)))){Q:Value->Shared->Prop}{E:Value->Shared->Prop}
  (h:∀ e Z' s',Z.le Z'->Exc1 c Z' ((C,.ns [])::ledr) e .none s'->E (.ref e) s'):wpAny c.M A (Builtin.SmallTypes.nextOf (.ref ga)) Q E s:=by
 have hgen:s.heap.IsGen ga g:=⟨_,_,_,r.zin _ _ hga,rfl,rfl,rfl⟩
 have go:=genRaise (A:=A.in1) (fd:=fd) (a:=a) (Y:=fun u_ u_ u_ u_ u_=>False) (n:=0) ok hh hfr F cmx bv hl av (r.setGen hc bO g)
 unfold Builtin.SmallTypes.nextOf
 refine aa (wpAny_callSpecial?_slot (name:=Str.ofString "__next__") hgen.typeIs slot_gen_next
  (wpAny_call_entry slot_gen_next hgen.typeIs entry_gen_next ?_ (args_gen_next _)))
 refine (?_:wpAny _ A.in1 (Builtin.Generator.genWake (.ref ga) (.send .none)) _ _ s)
 unfold Builtin.Generator.genWake
 refine aa (aV (wpAny_genNumber hgen (aa (wpAny_genState hg ?_))))
 refine aa (wpAny_roomToWake (ok.lim.keeps r.keepH) hroom ?_)
 refine (?_:wpAny _ A.in1 (.resume g (.send .none) [] _) _ _ s)
 refine wpAny_resumeQ hg go (fun x s₁ hx=>?_) (fun v s₁ gs' hb hv=>hv.elim)
 obtain ⟨e,Z',rfl,hz,x1⟩:=hx
 have x2:=x1.gens hc cO g
 refine (?_:wpAny _ A.in1 (Builtin.Generator.genLeft (.ref ga) (.ref e)) _ _ _)
 unfold Builtin.Generator.genLeft Builtin.Generator.madeByALambda
 refine aa (aa (wpAny_load (x2.1.zin _ _ (hz _ _ hga)) (ab ?_)))
 refine aa (wpAny_isInstance (T:="ValueError") (b:=false) x2.at' nA ?_)
 refine rP (aX (by simp)) ?_
 unfold Builtin.Generator.genEscaped
 refine aa (wpAny_isInstance (T:="ValueError") (b:=false) x2.at' nA ?_)
 refine rP (aY (by rfl)) ?_
 exact wpAny_throw (h e Z' _ hz x2)
end
end
section
section
variable {c:Cst}{A:Around}{Z:HP}{led led' ledr led0:Led}{s:Shared}{fd:FuncData}{a C I l ga z TI TO i1 C2 acc:Addr}{g:Nat}{outer:List Env}{nm qn:Value}
theorem Exc1.turn {e a:Addr}{f:Value}{x y:Ch} (h:Exc1 c Z led e f s) (u:Up led a x y led'){h':Heap}{o:Obj}{t:Tok} (hs:Heap.SameBut a s.heap h') (ho:h'.get? a=some o) (hx:y.On c.w Z o):Exc1 c Z led' e f { s with heap:=h',toks:=t }:=by
 obtain ⟨r,o1,oe,vs,T,oT,ts,h1,h2,h3,h4,h5,o2,h6,h7,h8⟩:=h
 have ha:a∈led.map (·.1):=bc (f:=(·.1)) u.at.mem
 have k:=u.keys
 refine ⟨r.turn u hs ho hx,⟨o1.1,by refine rP k ?_; exact o1.2⟩,oe,vs,T,oT,ts,(hs.2 _ (Ne.symm (o1.ne (.inr ha)))).trans h1,h2,h3,h4,h5,⟨o2.1,by refine rP k ?_; exact o2.2⟩,(hs.2 _ (Ne.symm (o2.ne (.inr ha)))).trans h6,h7,h8⟩
theorem zipX (hTI:Z TI=some (prO (.ref i1) (.ref ga))) (r:R c Z ((z,.obj (zO TI TO .none))::(TO,.obj (prO .none .none))::(i1,.obj (rgO ((0:Nat):Int) (4 - ((0:Nat):Int))))::ledr) s){E:Value->Shared->Prop}{glE:Led}
  (hgen:∀ s' t,R c Z ((z,.obj (zO TI TO .ellipsis))::(TO,.obj (prO (.int ((0:Nat):Int) t) .none))::(i1,.obj (rgO (((0:Nat):Int)+1) (4 - ((0:Nat):Int) - 1)))::ledr) s'->s'.gens=s.gens->
   wpAny c.M A.in1 (Builtin.SmallTypes.nextOf (.ref ga)) (fun u_ u_=>False) (fun x s''=>∃ e Z',x = .ref e/\Z.le Z'/\Exc1 c Z' ((z,.obj (zO TI TO .ellipsis))::glE) e .none s'') s')
  (h:∀ e Z' s',Z.le Z'->Exc1 c Z' glE e .none s'->E (.ref e) s'):wpAny c.M A (pyNext (.ref z)) (fun u_ u_=>False) E s:=
 kQ hTI r (fun u_ u_ u_=>False) _ (fun u_ s' t k g=>ac (hgen s' t k g) (fun u_ u_ f=>f.elim) fun u_ u_ x=>x) (fun u_ u_ u_ u_ u_ u_ f=>f.elim) (fun x s₄ ⟨e,Z',hx,hz4,x4⟩=>⟨e,"ValueError",false,hx,x4.1.objAt .h,nA,fun h₅ hz5 hs5=>
  have x5:=x4.turn (t:=s₄.toks) (y:=.obj (zO TI TO .none)) .h hs5 hz5 (.obj rfl)
  ⟨x5.at',fun q=>fT q,fun u_=>h e Z' _ hz4 (x5.weak (.drop .rest))⟩⟩) fun q=>(Int.not_le.2 (by decide) q).elim
end
end
section
noncomputable abbrev lX:Str:=⟨⟨[116,117,114,110]⟩⟩
noncomputable abbrev jz:Str:=⟨⟨[115,105,122,101]⟩⟩
section
variable {c:Cst}{A:Around}{Z0:HP}{led0:Led}{s:Shared}{row:List Int}{C l ga z TI TO i1 C2 acc:Addr}{g:Nat}{vs:List Value}{nn:Nat}{fd:FuncData}{a:Addr}{nm qn:Value}{env:Env}
theorem GInv.same {A:Around}{j:Nat}{st:GS}{gl:Led}{s s':Shared} (h:GInv c A row C l vs nn g fd a led0 j st gl s) (e:s'.gens=s.gens):GInv c A row C l vs nn g fd a led0 j st gl s':=by
 rcases h with ⟨q1,q2,q3,q4⟩ | ⟨h1,I,k,gs,q1,ne,hk,hg2,hst,go⟩
 ·exact .a0 q1 q2 q3 (rP (congrArg (·[g]?) e) q4)
 ·exact .a1 h1 I k gs q1 ne hk (rP (congrArg (·[g]?) e) hg2) hst go
inductive ZC (c:Cst) (A:Around) (Z0:HP) (row:List Int) (C l:Addr) (vs:List Value) (nn g:Nat) (fd:FuncData) (a:Addr) (led0:Led) (z TI TO i1 C2 acc:Addr) (n:Nat) (s':Shared):Prop
 | mk:∀ (j:Nat) (st:GS) (out:List Int) (Z:HP) (b0:Value) (b1:Value) (gl:Led),n=5 - j->j<=4->out.length<=j->out++eU row (4 - j) st=eU row 4 .start->Z0.le Z->R c Z ((z,.obj (zO TI TO .none))::(TO,.obj (prO b0 b1))::(i1,.obj (rgO (j:Int) (4 - (j:Int))))::(C2,.ns [])::(acc,.lst (out.map .int))::gl) s'->GInv c A row C l vs nn g fd a led0 j st gl s'->ZC c A Z0 row C l vs nn g fd a led0 z TI TO i1 C2 acc n s'
theorem zipComp {RR:Result->Shared->Prop}{p1 p2 p3 p4 pos:Pos}{k1:Nat}{iter:Expr}{scope:Scope} (hc:c.gf=none) (ok:c.Ok) (hh:A.handled=none) (hroom:A.in1.depth<recursionLimit) (cm:∃ t,c.mg sCM=some (.int 127 t)) (hvs:∃ xs:List (Int×Tok),vs=xs.map (fun p=>.int p.1 p.2)/\xs.map (·.1)=row) (h4:row.length=4) (h0:row[0]?≠some 0)
  (hTI:Z0 TI=some (prO (.ref i1) (.ref ga))) (hga:Z0 ga=some (genO g nm qn)) (hl:Z0 l=some (ci vs nn))
  (hk:env.scope.kind = .function) (hl1:env.kindOf lX=some .local) (hl2:env.kindOf jz=some .local) (hC2:env.locals=C2) (hp:(env.scope.kind == .class || (env.scope.kind == .module && env.locals != env.globals))=false)
  (fin:∀ Z s',Z0.le Z->R c Z ((C2,.ns [])::(acc,.lst ((eU row 4 .start).map .int))::led0) s'->RR (.ok .next) s')
  (r:R c Z0 ((z,.obj (zO TI TO .none))::(TO,.obj (prO .none .none))::(i1,.obj (rgO ((0:Nat):Int) (4 - ((0:Nat):Int))))::(C2,.ns [])::(acc,.lst [])::(C,.ns [(sGr,.ref l)])::led0) s) (hg:s.gens[g]? = some (.fresh (.func t06.1.body (gE fd a C)))) :
  codeAny c.M A (.compLoop (.ListComp (.Name jz p1) [⟨.Tuple [.Name lX p2,.Name jz p3] k1 p4,iter,[],0⟩] scope pos) 0 (.ref z) (.ref acc) env) RR s:=by
 refine nr (ZC c A.in1.in1 Z0 row C l vs nn g fd a led0 z TI TO i1 C2 acc)
  (fun n s' hJ=>?_) 5 ⟨0,.start,[],Z0,.none,.none,_,rfl,by exact aO _,by simp,rfl,.rfl,r,.a0 rfl rfl rfl hg⟩
 obtain ⟨j,st,out,Z,b0,b1,gl,rfl,hj,hlen,hout,hz,r',inv⟩:=hJ
 by_cases e:j=4
 ·subst e
  refine zipEnd hh (hz _ _ hTI) r' (by decide) fun s₁ r₁ u_=>?_
  have ho:out=eU row 4 .start:=by refine rQ hout ?_; simp -iota [eU]
  rcases inv with ⟨q,_,_,_⟩ | ⟨h1,I,k,gs,rfl,_,_,_,_,_⟩
  ·exact (aN (by decide) (aq q)).elim
  ·refine fin Z _ hz ?_
   refine rQ ho ?_
   exact r₁.weak (.cons .h (.cons .h (.drop (.drop .rest))))
 ·obtain ⟨m,hm⟩:∃ m,4 - j=m+1:=⟨4 - j - 1,by exact s41 hj (by assumption)⟩
  rw [hm] at hout
  refine zipTurn (nm:=nm) (qn:=qn) hc ok hh hroom cm hvs h4 h0 (hz _ _ hTI) (hz _ _ hga) (hz _ _ hl) (by exact subE' hm) r' inv (fun hx s₁ r₁=>?_) ?_
  ·have hg:eU row (m+1) st=[]:=by unfold eU; exact rP hx rfl
   rw [hg,List.append_nil] at hout
   refine fin Z _ hz ?_
   refine rQ hout ?_; exact r₁
  ·intro x st' hx T u v Z' gl' s₁ hz' r₁ av inv'
   have hg:eU row (m+1) st=x::eU row m st':=by rw [eU,hx]
   rw [hg] at hout
   refine (?_:wpAny c.M A (letOwnedTupleGo _ (.ref z) (.ref T)) _ _ _)
   refine wpAny_letOwnedTupleGo_zip (r₁.objAt .h) fun h' hz₂ hs₂=>?_
   have r₂:=r₁.turn (t:=s₁.toks) (y:=.obj (zO TI TO .none)) .h hs₂ hz₂ (.obj rfl)
   have inv2:=inv'.same (s':={ s₁ with heap:=h' }) rfl
   generalize ({ s₁ with heap:=h' }:Shared)=s₂ at r₂ inv2
   subst hC2
   have asg:Asg (c.fix s₂.gens) A env (.Tuple [.Name lX p2,.Name jz p3] k1 p4) (.tup [.int j,.int x]) _ (fun l'=>l'=(z,.obj (zO TI TO .none))::(TO,.obj (prO u v))::(i1,.obj (rgO ((j+1:Nat):Int) (4 - ((j+1:Nat):Int))))::(env.locals,.ns [(jz,.int x),(lX,.int j)])::(acc,.lst (out.map .int))::gl'):=
    Asg.tup hh rfl rfl (Asg.lo hl1 hp (.t (.t (.t .h))) (Asg.lo hl2 hp (.t (.t (.t .h))) rfl))
   refine fq (c:=c.fix s₂.gens) (asg Z' s₂ _ r₂.fix av) fun Z3 led3 s₃ hz3 r₃ q3=>?_
   subst q3
   have ev:Ev (c.fix s₂.gens) A env (.Name jz p1) ((z,.obj (zO TI TO .none))::(TO,.obj (prO u v))::(i1,.obj (rgO ((j+1:Nat):Int) (4 - ((j+1:Nat):Int))))::(env.locals,.ns [(jz,.int x),(lX,.int j)])::(acc,.lst (out.map .int))::gl') (fun d l'=>d = .int x/\l'=(z,.obj (zO TI TO .none))::(TO,.obj (prO u v))::(i1,.obj (rgO ((j+1:Nat):Int) (4 - ((j+1:Nat):Int))))::(env.locals,.ns [(jz,.int x),(lX,.int j)])::(acc,.lst (out.map .int))::gl'):=
    Ev.lo hk hl2 (.t (.t (.t .h))) rfl rfl ⟨rfl,rfl⟩
   refine bD (c:=c.fix s₂.gens) (ev Z3 s₃ r₃) fun Z4 led4 s₄ y d hz4 r₄ a4 q4=>?_
   obtain ⟨rfl,rfl⟩:=q4
   refine hM (c:=c.fix s₂.gens) r₄ (.t (.t (.t (.t .h)))) (by exact szM (nT hlen hj) rfl) a4 fun s₅ r₅=>?_
   obtain ⟨r₆,hgs⟩:=R.unfix hc r₅
   refine ⟨5 - (j+1),by omega,j+1,st',out++[x],Z4,u,v,gl',rfl,by lia,by refine rP aH (rP List.length_singleton ?_); exact aB hlen,?_,((hz.trans hz').trans hz3).trans hz4,?_,inv2.same hgs⟩
   ·refine rP (List.append_assoc _ _ _) (rP List.singleton_append (rP (show 4 - (j+1)=m by omega) ?_)); exact hout
   ·refine rP aI ?_
    exact r₆.weak (.cons .h (.cons .h (.cons .h (.le .ns0 .rest))))
end
end
section
section
variable {c:Cst}{A:Around}{Z:HP}{led:Led}{s:Shared}{l a:Addr}{vs:List Value}{nn:Nat}{fd:FuncData}
theorem genCall {P:Result->Shared->Prop} (hc:c.gf=none) (ok:c.Ok) (hroom:A.depth<recursionLimit) (F:FnAt c a t06.1 fd) (r:R c Z led s)
  (h:∀ C ga g nm qn Z' s',Z.le Z'->R c Z' ((C,.ns [(sGr,.ref l)])::led) s'->Z' ga=some (genO g nm qn)->s'.gens[g]? = some (.fresh (.func t06.1.body (gE fd a C)))->P (.ok (.ret (.ref ga))) s') :
  codeAny c.M A (.call (.ref a) ⟨[.ref l],[]⟩) P s:=by
 obtain ⟨o,ho,hd⟩:=F.o
 have ho':=r.zin _ _ (r.base _ _ ho)
 refine codeAny_call_generator hroom ho' hd (by refine rP F.sc ?_; rfl) (by refine rP F.sc ?_; rfl) F.bd (F.code.keeps r.keepH) ?_
 refine rP (F.bindEq (vs:=[.ref l]) (l:=[(sGr,.ref l)]) fun u_ u_ u_ u_ u_ u_ u_ u_ u_ u_ u_ u_=>rfl) ?_
 refine ab ?_
 refine rP F.sc (rP F.gl (rP F.cl (rP F.bu ?_)))
 refine ac (wpEnv (m:=[(sGr,.ref l)]) r (.cons .val .nil) ?_) (fun u_ u_ q=>q) noE.im
 intro C
 refine Sto.lo rfl rfl .h ?_
 intro Z' s' hz r'
 refine ⟨ok.lim.keeps r'.keepH,?_⟩
 obtain ⟨hz2,r2⟩:=r'.pushZ (o:=genO s'.gens.size (.str fd.name s'.toks) (.str fd.qualname (s'.toks+1))) rfl
 refine h C s'.heap.objs.size s'.gens.size _ _ _ _ (hz.trans hz2) ⟨r2.base,r2.zin,r2.on,r2.dis,r2.nod,⟨r2.gens.1.push rfl,fun G' e=>by rw [hc] at e; exact nS e⟩,r2.os⟩ HP.sf ?_
 exact rP Array.getElem?_push (rP (aY rfl) rfl)
end
end
section
theorem small4:Builtin.Range.small 0 4 1=true:=by decide +kernel
noncomputable abbrev zh1 (h:Heap):Heap:=h.push { cls:=.type "range_iterator",data:=.fields #[rawInt 0,rawInt (Builtin.Range.rangeSize 0 4 1),rawInt 1] }
noncomputable abbrev zh2 (h:Heap) (ga:Addr):Heap:=(zh1 h).push { cls:=.type "tuple",data:=.seq #[.ref h.objs.size,.ref ga] }
noncomputable abbrev zh3 (h:Heap) (ga:Addr):Heap:=(zh2 h ga).push { cls:=.type "tuple",data:=.seq #[.none,.none] }
noncomputable abbrev zh4 (h:Heap) (ga:Addr):Heap:=(zh3 h ga).push { cls:=.type "zip",data:=.fields #[.none,.bool false,.bool false,.ref (zh1 h).objs.size,.ref (zh2 h ga).objs.size] }
theorem lY (q ga:Addr) (g:Nat) (t u v:Tok) :
  Meets (Builtin.«zip.__new__» ⟨[.type "zip",.ref q,.ref ga],[]⟩) (fun u_ R s=>IsRange s.heap q 0 4 1 t u v/\s.heap.IsGen ga g/\
   R (.ok (.ret (.ref (zh3 s.heap ga).objs.size))) { s with heap:=zh4 s.heap ga }):=
 .of_wp fun prog w A R s h=>by
  obtain ⟨hp,gg,d,tk,os⟩:=s; obtain ⟨hl1,hl2,h⟩:=h
  have hsub:=sub_zip
  have hL1:IsRange (Shared.heap ⟨hp,gg,d,tk,os⟩) q 0 4 1 t u v:=hl1
  have hL2:Heap.IsGen (Shared.heap ⟨zh1 hp,gg,d,tk,os⟩) ga g:=hl2.push _
  wp_walk using wpAny_pyIter_range hL1 small4,wpAny_pyIter_gen hL2
  exact ⟨_,rfl,h⟩
end
section
section
variable {c:Cst}{A:Around}{Z:HP}{led:Led}{s:Shared}{q ga:Addr}{g:Nat}{nm qn:Value}{t u v:Tok}
theorem callZip {Q:Value->Shared->Prop}{E:Value->Shared->Prop} (r:R c Z led s) (hq:Z q=some (cw "range" [.int 0 t,.int 4 u,.int 1 v])) (hga:Z ga=some (genO g nm qn))
  (h:∀ z TI TO i1 Z' s',Z.le Z'->Z' TI=some (prO (.ref i1) (.ref ga))->R c Z' ((z,.obj (zO TI TO .none))::(TO,.obj (prO .none .none))::(i1,.obj (rgO ((0:Nat):Int) (4 - ((0:Nat):Int))))::led) s'->s'.gens=s.gens->Q (.ref z) s') :
  wpAny c.M A (call (.type "zip") [.ref q,.ref ga]) Q E s:=by
 refine callType_new PySem.F.called_zip (by decide) (PySem.F.typeCall_zip_2 _ _) (PySem.F.newCall_zip_2 _ _) (fun obj=>PySem.F.args_object_init_3 obj _ _) PySem.F.entry_zip_new
  (lY q ga g t u v) ⟨r.zin _ _ hq,⟨_,_,_,r.zin _ _ hga,rfl,rfl,rfl⟩,?_⟩
 have r1:=r.push (o:=rgO ((0:Nat):Int) (4 - ((0:Nat):Int))) (x:=.obj _) (.obj rfl)
 obtain ⟨hz2,r2⟩:=r1.pushZ (o:=prO (.ref s.heap.objs.size) (.ref ga)) rfl
 have r3:=r2.push (o:=prO .none .none) (x:=.obj _) (.obj rfl)
 have r4:=r3.push (o:=zO (zh1 s.heap).objs.size (zh2 s.heap ga).objs.size .none) (x:=.obj _) (.obj rfl)
 refine ⟨⟨_,bj _ rfl,rfl⟩,?_⟩
 exact h _ (zh1 s.heap).objs.size (zh2 s.heap ga).objs.size s.heap.objs.size _ _ hz2 HP.sf r4 rfl
end
end
section
section
variable {c:Cst}{A:Around}{Z:HP}{led:Led}{env:Env}
theorem Ex.tryOk {body:List Stmt}{h₀:ExceptHandler}{hs:List ExceptHandler}{pos:Pos}{Q:Fl->Led->Prop} (h:Exs c A env body led fun f led₁=>f≠.next/\Q f led₁):Ex c A env (.Try body (h₀::hs) [] [] pos) led Q:=fun Z s r=>by
 refine wpAny_Try_except (ac (h Z s r) (fun f s₁ ⟨Z1,led₁,g,h1,r1,a1,hn,q⟩=>?_) fun u_ u_ e=>e.elim)
 induction a1 with
 | next=>exact absurd rfl hn
 | brk=>exact ⟨Z1,led₁,_,h1,r1,.brk,q⟩
 | cont=>exact ⟨Z1,led₁,_,h1,r1,.cont,q⟩
 | ret a=>exact ⟨Z1,led₁,_,h1,r1,.ret a,q⟩
end
end
section
noncomputable abbrev gB:Str:=⟨⟨[112,117,115,104,98,97,99,107]⟩⟩
structure eg (c:Cst) (C:Addr) (x:Str):Prop where
 s:findIn c.K (.ref C) "__setattr__" = some (some (.builtin "object.__setattr__"))
 p:plainOver c.K C=true
 t:takerIn c.K C x=some none
 h:hasDictIn c.K C=true
section
variable {c:Cst}{A:Around}{led led':Led}{Q:D->Led->Prop}{a:Addr}{fd:FuncData}
theorem w9push (ok:c.Ok) (hA:Aok A 2) (F:FnAt c a m9push.1 fd){Kl dx P:Addr} (K:eF c Kl gB){kvs:List (Str×D)} (hm:At led dx (.dic kvs)) (hk:cM kvs gB=some (.ref P)){ds:List D}{d:D} (u:Up led P (.lst ds) (.lst (ds++[d])) led') (hz:ds.length<=1000)
  (h:Q .none led'):Cc c A (.ref a) [.obj (instObj Kl dx),d] led Q:=by
 refine F.call ok hA (F.bind2 (x:=⟨⟨[115,101,108,102]⟩⟩) (y:=⟨⟨[116,111,107,101,110]⟩⟩) fun v u=>fun u_ u_ u_ u_ u_ u_ u_ u_ u_ u_ u_ u_=>rfl) rfl rfl ?_
 intro C A' hA'
 refine Sto.lo rfl rfl .h (Sto.lo rfl rfl .h ?_)
 refine Exs.co (Ex.expr rfl rfl (Ev.meth rfl rfl rfl rfl (Ev.att rfl (Ev.lo rfl rfl .h rfl rfl (Gat.own ok K.g K.h K.f rfl (.t hm) hk rfl (Mth.lstM (.t u.at) PySem.F.slot_list_append rfl (Evs.co rfl (Ev.lo rfl rfl .h rfl rfl (Evs.ni ⟨.bui,Cl.append (.t u) (by exact szD hz rfl) ⟨rfl,?_⟩⟩)))))))))
 exact Exs.ni ⟨_,.drop .rest,h⟩
theorem w11init (ok:c.Ok) (hA:Aok A 2) (F:FnAt c a m11init.1 fd){Kl dx:Addr} (K:eg c Kl sSel) (d:D) (u:Up led dx (.dic []) (.dic [(sSel,d)]) led') (h:Q .none led'):Cc c A (.ref a) [.obj (instObj Kl dx),d] led Q:=by
 refine F.call ok hA (F.bind2 (x:=⟨⟨[115,101,108,102]⟩⟩) (y:=⟨⟨[99,111,109,112,95,115,101,108,101,99,116,95,108,105,115,116]⟩⟩) fun v u=>fun u_ u_ u_ u_ u_ u_ u_ u_ u_ u_ u_ u_=>rfl) rfl rfl ?_
 intro C A' hA'
 refine Sto.lo rfl rfl .h (Sto.lo rfl rfl .h ?_)
 refine Exs.co (Ex.asgA rfl (Ev.lo rfl rfl .h rfl rfl (Ev.lo rfl rfl .h rfl rfl (Sat.inst ok K.s K.p K.t K.h (.t u) (by simp) ?_))))
 exact Exs.ni ⟨_,.drop .rest,h⟩
noncomputable abbrev iy:Str:=⟨⟨[108,105,110,101,110,111]⟩⟩
noncomputable abbrev sIn:Str:=⟨⟨[105,110,115,116,114,101,97,109]⟩⟩
noncomputable abbrev sWh:Str:=⟨⟨[119,104,105,116,101,115,112,97,99,101]⟩⟩
noncomputable def mw (n:Int) (fp:D) (P:Addr):List (Str×D):=[(iy,.int n),(sIn,fp),(sWh,.str ⟨⟨[10,9,13,32]⟩⟩),(gB,.ref P)]
theorem w9init (ok:c.Ok) (hA:Aok A 2) (F:FnAt c a m9init.1 fd){Kl dx:Addr} (K1:eg c Kl iy) (K2:eg c Kl sIn) (K3:eg c Kl sWh) (K4:eg c Kl gB) (fp:D) (h:∀ P,Q .none ((P,.lst [])::(dx,.dic (mw 1 fp P))::led)):Cc c A (.ref a) [.obj (instObj Kl dx),fp] ((dx,.dic [])::led) Q:=by
 refine F.call ok hA (F.bind2 (x:=⟨⟨[115,101,108,102]⟩⟩) (y:=⟨⟨[102,112]⟩⟩) fun v u=>fun u_ u_ u_ u_ u_ u_ u_ u_ u_ u_ u_ u_=>rfl) rfl rfl ?_
 intro C A' hA'
 refine Sto.lo rfl rfl .h (Sto.lo rfl rfl .h ?_)
 refine Exs.co (Ex.asgA rfl (Ev.cn 1 (Ev.lo rfl rfl .h rfl rfl (Sat.inst ok K1.s K1.p K1.t K1.h (.t .h) (by simp) ?_))))
 refine Exs.co (Ex.asgA rfl (Ev.lo rfl rfl .h rfl rfl (Ev.lo rfl rfl .h rfl rfl (Sat.inst ok K2.s K2.p K2.t K2.h (.t .h) (by show 1<=900; decide) ?_))))
 refine Exs.co (Ex.asgA rfl (Ev.cstr (Ev.lo rfl rfl .h rfl rfl (Sat.inst ok K3.s K3.p K3.t K3.h (.t .h) (by show 2<=900; decide) ?_))))
 refine Exs.co (Ex.asgA rfl (Ev.lstM (Evs.ni ⟨by rw [ai]; simp,fun P=>Ev.lo rfl rfl (.t .h) rfl rfl (Sat.inst ok K4.s K4.p K4.t K4.h (.t (.t .h)) (by show 3<=900; decide) ?_)⟩)))
 exact Exs.ni ⟨_,.take .h .rfl (.drop .rest),h P⟩
end
end
section
noncomputable abbrev iz:Str:=⟨⟨[114,101,97,100]⟩⟩
theorem Up.same0 {a:Addr}{x y:Ch}{l l':Led} (h:Up l a x y l'):x=y->l'=l:=h.rec (fun e=>e ▸ rfl) fun u_ ih e=>congrArg _ (ih e)
theorem Up.same {a:Addr}{x:Ch}{l l':Led} (h:Up l a x x l'):l'=l:=h.same0 rfl
section
variable {c:Cst}{A:Around}{led led₁ led₂:Led}{Q:D->Led->Prop}{a:Addr}{fd:FuncData}
theorem w9read (ok:c.Ok) (hA:Aok A 3) (F:FnAt c a m9read.1 fd){Kl dx dy P:Addr} (K1:eF c Kl sIn) (K2:eF c Kl iz) (K3:eF c Kl iy) (K4:eg c Kl iy){kvs:List (Str×D)}{g:D}{ch:Str}{n:Int}
  (hm:At led dx (.dic (mw n (.obj (instObj Kl dy)) P))) (hy:At led dy (.dic kvs)) (hg:cM kvs iz=some g) (hv:g.handed=true) (kp:∀ l,Kpr c g l)
  (rd:∀ A C m (Q:D->Led->Prop),Aok A 2->Q (.str ch) ((C,.ns m)::led₁)->Cl c A g [.int 1] ((C,.ns m)::led) Q)
  (u:Up led₁ dx (.dic (mw n (.obj (instObj Kl dy)) P)) (.dic (mw (if ch=⟨⟨[10]⟩⟩ then n+1 else n) (.obj (instObj Kl dy)) P)) led₂) (h:Q (.str ch) led₂):Cc c A (.ref a) [.obj (instObj Kl dx)] led Q:=by
 refine F.call ok hA (F.bind1 (x:=⟨⟨[115,101,108,102]⟩⟩) fun v=>fun u_ u_ u_ u_ u_ u_ u_ u_ u_ u_ u_ u_=>rfl) rfl rfl ?_
 intro C A' hA'
 refine Sto.lo rfl rfl .h ?_
 refine Exs.co (Ex.asg rfl (Ev.meth rfl rfl rfl rfl (Ev.att rfl (Ev.lo rfl rfl .h rfl rfl (Gat.own ok K1.g K1.h K1.f rfl (.t hm) rfl rfl (Mth.own ok K2.g K2.h K2.f rfl rfl (.t hy) hg hv (Evs.co rfl (Ev.cn 1 (Evs.ni ⟨kp _,rd _ _ _ _ hA' (Asg.lo rfl rfl .h ?_)⟩)))))))))
 refine Exs.co (Ex.ite (Tst.cmp rfl (Ev.lo rfl rfl .h rfl rfl (Ev.cstr (Cmp.eqS ⟨_,rfl,?_⟩)))))
 by_cases q:ch=⟨⟨[10]⟩⟩
 ·refine ifT (by simpa using q) ?_
  rw [aY q] at u
  refine Exs.co (Ex.augA (Ev.lo rfl rfl .h rfl rfl (Gat.own ok K3.g K3.h K3.f rfl (.t u.at) rfl rfl (Ev.cn 1 (Inp.addI (Sat.inst ok K4.s K4.p K4.t K4.h (.t u) (by show 4<=900; decide) (Exs.ni ?_)))))))
  exact Exs.co (Ex.ret (Ev.lo rfl rfl .h rfl rfl ⟨_,.drop .rest,h⟩))
 ·refine ifF (by simpa using q) ?_
  rw [aX q] at u
  rw [u.same] at h
  refine Exs.ni (Exs.co (Ex.ret (Ev.lo rfl rfl .h rfl rfl ⟨_,.drop .rest,h⟩)))
end
end
section
noncomputable abbrev kZ:Str:=⟨⟨[115,105,103,110,115]⟩⟩
noncomputable def t16r:{ t:Txt // t=bX (t16.1.body.getD 1 (.Pass ⟨0,0,0,0⟩)) }:=by
 refine ⟨?a,?h⟩
 case h=>conv=>rhs; reduce
structure NestAt (c:Cst) (fd:FuncData) (cc P:Addr):Prop where
 code:fd.code = .ref cc
 hd:CodeHd c.H0 cc P
 ne:mainGlobals≠P
 bu:c.H0.BuiltinsAt c.mg P
structure RdFn (fd:FuncData) (B:Addr):Prop where
 pr:fd.params=t16r.1.pars
 bd:fd.body = .stmts t16r.1.body
 sc:fd.scope=t16r.1.scope
 cl:fd.closure=[(kZ,B)]
 gl:fd.globals=mainGlobals
 bu:fd.builtins=builtinsNs
 df:fd.defaults = .none
section
variable {c:Cst}{A:Around}{led led':Led}{Q:D->Led->Prop}{a B S:Addr}{fd:FuncData}
theorem RdFn.bind (F:RdFn fd B){v:Value}:bindArgs fd ⟨[v],[]⟩=pure [(⟨⟨[99,111,117,110,116]⟩⟩,v)]:=by
 have pr:=F.pr
 have df:=F.df
 clear F
 cases fd
 simp only at pr df
 subst pr df
 rfl
theorem RdFn.call (F:RdFn fd B) (ok:c.Ok) (hA:Aok A 2) (h:∀ a C A',Aok A' 1->Exs c A' (fE fd t16r.1 a C [(kZ,B)]) t16r.1.body ((C,.ns [(⟨⟨[99,111,117,110,116]⟩⟩,.int 1)])::led) (bS Q led)):Cc c A (.fnc fd) [.int 1] led Q:=by
 refine Cc.fnc (m:=[(⟨⟨[99,111,117,110,116]⟩⟩,.int 1)]) ok hA F.bd (fun Z s vs r av=>av.one' fun v av=>⟨[(⟨⟨[99,111,117,110,116]⟩⟩,v)],.of_eq F.bind,.cons av .nil⟩) (by refine rP F.sc ?_; rfl) (by refine rP F.sc ?_; rfl) ?_
 have e:∀ a C,dA fd a C [(kZ,B)]=fE fd t16r.1 a C [(kZ,B)]:=fun a C=>by
  unfold dA fE
  exact rP F.sc (rP F.gl (rP F.bu rfl))
 refine rP F.sc (rP F.cl ?_)
 intro a C
 intro A' hA'
 refine rP (e _ _) ?_
 exact Sto.lo rfl rfl .h (h a C A' hA')
theorem wrd (F:RdFn fd B) (ok:c.Ok) (hA:Aok A 2) (hB:At led B (.cell (some (.ref S)))){d:D}{ds:List D} (u:Up led S (.lst (d::ds)) (.lst ds) led') (hz:ds.length<sizeLine) (h:Q d led'):Cc c A (.fnc fd) [.int 1] led Q:=by
 refine F.call ok hA fun a C A' hA'=>?_
 refine Exs.co (Ex.ret (Ev.ifx (Tst.cmp rfl (Ev.fre rfl rfl rfl (.t hB) rfl rfl (Ev.lst (Evs.ni ⟨by rw [ai]; simp,Cmp.ne0M (.t u.at) (by have:=hA'.hu; unfold cLine; lia) ⟨_,rfl,?_⟩⟩))))))
 refine ifT (by rfl) ?_
 exact Ev.meth rfl rfl rfl rfl (Ev.fre rfl rfl rfl (.t hB) rfl rfl (Mth.lstM (.t u.at) slot_list_pop rfl (Evs.co rfl (Ev.cn 0 (Evs.ni ⟨.bui,Cl.pop0 (.t u) hz ⟨_,.drop .rest,h⟩⟩)))))
theorem wrd0 (F:RdFn fd B) (ok:c.Ok) (hA:Aok A 2) (hB:At led B (.cell (some (.ref S)))) (hS:At led S (.lst [])) (h:Q (.str ⟨⟨[]⟩⟩) led):Cc c A (.fnc fd) [.int 1] led Q:=by
 refine F.call ok hA fun a C A' hA'=>?_
 refine Exs.co (Ex.ret (Ev.ifx (Tst.cmp rfl (Ev.fre rfl rfl rfl (.t hB) rfl rfl (Ev.lst (Evs.ni ⟨by rw [ai]; simp,Cmp.ne0M (.t hS) (by have:=hA'.hu; unfold cLine; lia) ⟨_,rfl,?_⟩⟩))))))
 refine ifF (by decide) ?_
 exact Ev.cstr ⟨_,.drop .rest,h⟩
end
end
section
structure LexAt (c:Cst) (Kl:Addr) (fI:Addr) (fdI:FuncData):Prop where
 f:FnAt c fI m9init.1 fdI
 mak:makesIn c.K Kl=true
 kp:keepIn c.K (.ref Kl)=true
 i:findIn c.K (.ref Kl) "__init__" = some (some (.ref fI))
 ty:typeIn c.K (.ref fI)=some (.type "function")
 s1:eg c Kl iy
 s2:eg c Kl sIn
 s3:eg c Kl sWh
 s4:eg c Kl gB
 s5:eg c Kl iz
 g:c.mg ⟨⟨[95,110,101,116,114,99,108,101,120]⟩⟩=some (.ref Kl)
section
variable {c:Cst}{A:Around}{led led':Led}{Q:D->Led->Prop}{a B S:Addr}{fd:FuncData}
theorem LexAt.new {Kl fI:Addr}{fdI:FuncData} (K:LexAt c Kl fI fdI) (ok:c.Ok) (hA:Aok A 4) (fp:D) (h:∀ P dx,Q (.obj (instObj Kl dx)) ((P,.lst [])::(dx,.dic (mw 1 fp P))::led)):Cl c A (.ref Kl) [fp] led Q:=
 Cl.of (Cc.cls ok hA K.mak K.i K.ty fun dx A' hA'=>w9init ok hA' K.f K.s1 K.s2 K.s3 K.s4 fp fun P=>⟨rfl,h P dx⟩)
noncomputable def nB (P:Addr) (fd:FuncData):List (Str×D):=mw 1 .none P++[(iz,.fnc fd)]
theorem w16 (ok:c.Ok) (Bn:Bui c) (hA:Aok A 5) (F:FnAt c a t16.1 fd){cc T:Addr} (N:NestAt c fd cc T){Kl fI:Addr}{fdI:FuncData} (K:LexAt c Kl fI fdI) (x:Str) (hx:x.length<=1000)
  (hm:At led T (.tab ⟨146,4,147,50⟩ (fd.qualname++".<locals>."++iz)))
  (h:∀ fr B S P dy,RdFn fr B->Q (.obj (instObj Kl dy)) ((P,.lst [])::(dy,.dic (nB P fr))::(S,.lst (chars x))::(B,.cell (some (.ref S)))::led)):Cc c A (.ref a) [.str x] led Q:=by
 refine F.call ok hA (F.bind1 (x:=⟨⟨[116,101,120,116]⟩⟩) fun v=>fun u_ u_ u_ u_ u_ u_ u_ u_ u_ u_ u_ u_=>rfl) rfl rfl ?_
 intro C B A' hA'
 refine Sto.lo rfl rfl (.t .h) ?_
 refine Exs.co (Ex.asg rfl (Ev.ca rfl rfl (Ev.bui ok rfl rfl rfl rfl Bn.list'.1 Bn.list'.2 rfl ?_)))
 refine Evs.co rfl (Ev.lo rfl rfl (.t .h) rfl rfl (Evs.ni ⟨.typ,Cl.listS hA'.hh (by exact szD hx rfl) fun S=>?_⟩))
 refine Asg.cel rfl rfl rfl (.t .h) rfl ?_
 refine Exs.co (Ex.defn ok rfl rfl rfl rfl rfl N.code N.hd N.ne N.bu (.t (.t (.t hm))) fun fr hf=>?_)
 refine Sto.lo rfl rfl (.t (.t .h)) ?_
 have hr:RdFn fr B:=⟨hf.pr,hf.bd,hf.sc,hf.cl,hf.gl,hf.bu,hf.df⟩
 refine Exs.co (Ex.asg rfl (Ev.ca rfl rfl (Ev.glo ok rfl rfl rfl K.g rfl ?_)))
 refine Evs.co rfl (Ev.cnone (Evs.ni ⟨.cls ok K.kp,K.new ok hA' .none fun P dy=>?_⟩))
 refine Asg.lo rfl rfl (.t (.t (.t (.t .h)))) ?_
 refine Exs.co (Ex.asgA rfl (Ev.lo rfl rfl (.t (.t (.t (.t .h)))) rfl rfl (Ev.lo rfl rfl (.t (.t (.t (.t .h)))) rfl rfl (Sat.inst ok K.s5.s K.s5.p K.s5.t K.s5.h (.t .h) (by show 4<=900; decide) ?_))))
 refine Exs.co (Ex.ret (Ev.lo rfl rfl (.t (.t (.t (.t .h)))) rfl rfl ⟨_,?_,h fr B S P dy hr⟩))
 exact .cons .h (.cons .h (.cons .h (.cons .h (.drop .rest))))
end
end
section
structure nE (c:Cst) (C:Addr) (x:Str) (f:Addr):Prop where
 g:plainGet c.K C x=true
 h:hasDictIn c.K C=true
 fi:findIn c.K (.ref C) x=some (some (.ref f))
 fn:isFn c.K (.ref f)=true
 gt:specialIn c.K (.ref f) "__get__" = some (some (.builtin "function.__get__"))
 tk:takesIn c.K (.ref f)=some false
 ty:typeIn c.K (.ref f)=some (.type "function")
noncomputable abbrev sRc:Str:=⟨⟨[95,114,101,97,100,95,99,104,97,114]⟩⟩
section
variable {c:Cst}{A:Around}{led led':Led}{Q:D->Led->Prop}{a:Addr}{fd:FuncData}
theorem Tru.lstM {a:Addr}{ds:List D}{Q:Bool->Led->Prop} (hm:At led a (.lst ds)) (hz:ds.length<=sizeLine) (h:Q (!ds.isEmpty) led):Tru c A (.ref a) led Q:=fun Z s v r x=>x.val' <| by
 obtain ⟨o,ho,hx⟩:=r.at_ hm
 induction hx using Ch.On.eLst with
 | @lst vs n av=>
  refine wpAny_truthy_list (bx ho) (by refine rP aE (rP av.length ?_); exact fv hz) ?_
  have e:vs.toArray.isEmpty=ds.isEmpty:=by cases av <;> rfl
  refine rP e ?_
  exact mkB (r.toks _) h
theorem wgt0 (ok:c.Ok) (hA:Aok A 2) (F:FnAt c a m9get.1 fd){Kl dx P:Addr} (K:eF c Kl gB){kvs:List (Str×D)} (hm:At led dx (.dic kvs)) (hk:cM kvs gB=some (.ref P)){ds:List D}{d:D} (u:Up led P (.lst (d::ds)) (.lst ds) led') (hz:ds.length<=1000)
  (h:Q d led'):Cc c A (.ref a) [.obj (instObj Kl dx)] led Q:=by
 refine F.call ok hA (F.bind1 (x:=⟨⟨[115,101,108,102]⟩⟩) fun v=>fun u_ u_ u_ u_ u_ u_ u_ u_ u_ u_ u_ u_=>rfl) rfl rfl ?_
 intro C A' hA'
 refine Sto.lo rfl rfl .h ?_
 refine Exs.co (Ex.ite (Tst.val rfl (Ev.att rfl (Ev.lo rfl rfl .h rfl rfl (Gat.own ok K.g K.h K.f rfl (.t hm) hk rfl (Tru.lstM (.t u.at) (by refine rP ai (rP aJ ?_); exact nD (aB hz) rfl) ?_))))))
 refine ifT (by rfl) ?_
 refine Exs.co (Ex.ret (Ev.meth rfl rfl rfl rfl (Ev.att rfl (Ev.lo rfl rfl .h rfl rfl (Gat.own ok K.g K.h K.f rfl (.t hm) hk rfl (Mth.lstM (.t u.at) slot_list_pop rfl (Evs.co rfl (Ev.cn 0 (Evs.ni ⟨.bui,Cl.pop0 (.t u) (by exact szD (aB hz) rfl) ⟨_,.drop .rest,h⟩⟩)))))))))
end
noncomputable def chD (cs:List Nat):List D:=cs.map fun ch=>.str ⟨⟨[ch]⟩⟩
structure LexV (c:Cst) (Kl dx dy P P2 S B:Addr) (fr:FuncData) (L:Int->List Nat->Led):Prop where
 d:∀ n cs,At (L n cs) dx (.dic (mw n (.obj (instObj Kl dy)) P))
 p:∀ n cs,At (L n cs) P (.lst [])
 y:∀ n cs,At (L n cs) dy (.dic (nB P2 fr))
 b:∀ n cs,At (L n cs) B (.cell (some (.ref S)))
 s:∀ n cs,At (L n cs) S (.lst (chD cs))
 un:∀ n n' cs,Up (L n cs) dx (.dic (mw n (.obj (instObj Kl dy)) P)) (.dic (mw n' (.obj (instObj Kl dy)) P)) (L n' cs)
 us:∀ n k cs,Up (L n (k::cs)) S (.lst (chD (k::cs))) (.lst (chD cs)) (L n cs)
structure LexF (c:Cst) (Kl:Addr) (fR:Addr) (fdR:FuncData):Prop where
 f:FnAt c fR m9read.1 fdR
 k1:eF c Kl sIn
 k2:eF c Kl iz
 k3:eF c Kl iy
 k4:eg c Kl iy
 k5:eF c Kl sWh
 k6:eF c Kl gB
 m:nE c Kl sRc fR
section
variable {c:Cst}{A:Around}{led led':Led}{Q:D->Led->Prop}{a:Addr}{fd:FuncData}
variable {Kl dx dy P P2 S B fR:Addr}{fr fdR:FuncData}{L:Int->List Nat->Led}
theorem LexV.app (V:LexV c Kl dx dy P P2 S B fr L) (f:Led):LexV c Kl dx dy P P2 S B fr (fun n cs=>f++L n cs):=
 ⟨fun n cs=>(V.d n cs).app f,fun n cs=>(V.p n cs).app f,fun n cs=>(V.y n cs).app f,fun n cs=>(V.b n cs).app f,fun n cs=>(V.s n cs).app f,fun n n' cs=>(V.un n n' cs).app f,fun n k cs=>(V.us n k cs).app f⟩
noncomputable def nl (ch:Nat):Int:=if ch=10 then 1 else 0
theorem str1_nil {ch:Nat}:(⟨⟨[ch]⟩⟩:Str)≠⟨⟨[]⟩⟩:=fun e=>by injection e with e; injection e with e; exact cN' e
theorem LexV.read (V:LexV c Kl dx dy P P2 S B fr L) (ok:c.Ok) (hA:Aok A 3) (X:LexF c Kl fR fdR) (R:RdFn fr B){n:Int}{k:Nat}{cs:List Nat} (hz:cs.length<=2000) (h:Q (.str ⟨⟨[k]⟩⟩) (L (n+nl k) cs)) :
  Cc c A (.ref fR) [.obj (instObj Kl dx)] (L n (k::cs)) Q:=by
 refine w9read (led₁:=L n cs) (ch:=⟨⟨[k]⟩⟩) (n:=n) (g:=.fnc fr) ok hA X.f X.k1 X.k2 X.k3 X.k4 (V.d n _) (V.y n _) rfl rfl (fun l=>Kpr.fnc) (fun A C m Q hA q=>Cl.of (wrd (d:=.str ⟨⟨[k]⟩⟩) R ok hA (.t (V.b n _)) (.t (V.us n k cs)) (by refine rP (am _) (rP ai ?_); exact nD (aB hz) rfl) q)) (led₂:=L (n+nl k) cs) ?_ h
 have e:(if (⟨⟨[k]⟩⟩:Str)=⟨⟨[10]⟩⟩ then n+1 else n)=n+nl k:=by
  unfold nl
  by_cases q:k=10
  ·subst q; exact rP (aY rfl) (rP (aY rfl) rfl)
  ·refine rP (aX fun e=>q (by injection e with e; injection e with e; injection e)) (rP (aX q) ?_); exact (Int.sub_zero _).symm
 refine rP e ?_
 exact V.un _ _ _
theorem LexV.read0 (V:LexV c Kl dx dy P P2 S B fr L) (ok:c.Ok) (hA:Aok A 3) (X:LexF c Kl fR fdR) (R:RdFn fr B){n:Int} (h:Q (.str ⟨⟨[]⟩⟩) (L n [])) :
  Cc c A (.ref fR) [.obj (instObj Kl dx)] (L n []) Q:=by
 refine w9read (led₁:=L n []) (ch:=⟨⟨[]⟩⟩) (n:=n) (g:=.fnc fr) ok hA X.f X.k1 X.k2 X.k3 X.k4 (V.d n _) (V.y n _) rfl rfl (fun l=>Kpr.fnc) (fun A C m Q hA q=>Cl.of (wrd0 R ok hA (.t (V.b n _)) (.t (V.s n [])) q)) (led₂:=L n []) ?_ h
 refine rP (aX (by intro e; injection e with e; injection e with e; exact nC e)) ?_
 exact V.un _ _ _
noncomputable abbrev my (fR Kl dx:Addr):Ch:=.cal (.bm fR (.obj (instObj Kl dx)))
theorem LexV.stp (V:LexV c Kl dx dy P P2 S B fr L) (ok:c.Ok) (hA:Aok A 4) (X:LexF c Kl fR fdR) (R:RdFn fr B){I:Addr}{x:Str}{pos:Pos}{n:Int}{k:Nat}{cs:List Nat} (hz:cs.length<=2000){Qn:Led->Prop}{Qs:D->Led->Prop} (h:Qs (.str ⟨⟨[k]⟩⟩) ((I,my fR Kl dx)::L (n+nl k) cs)) :
  Stp c A (.ref I) (.Name x pos) ((I,my fR Kl dx)::L n (k::cs)) Qn Qs:=by
 obtain ⟨o,ho,hd⟩:=X.f.o
 refine Stp.cal hA.hh ho hd .h (Cc.bm ((V.app [(I,my fR Kl dx)]).read ok (hA.in1.le (by exact aC _)) X R hz ⟨_,rfl,.h,?_⟩))
 refine ifF str1_nil ?_
 exact h
theorem LexV.stp0 (V:LexV c Kl dx dy P P2 S B fr L) (ok:c.Ok) (hA:Aok A 4) (X:LexF c Kl fR fdR) (R:RdFn fr B){I:Addr}{x:Str}{pos:Pos}{n:Int}{Qn:Led->Prop}{Qs:D->Led->Prop} (hI:Qn (L n [])) :
  Stp c A (.ref I) (.Name x pos) ((I,my fR Kl dx)::L n []) Qn Qs:=by
 obtain ⟨o,ho,hd⟩:=X.f.o
 refine Stp.cal hA.hh ho hd .h (Cc.bm ((V.app [(I,my fR Kl dx)]).read0 ok (hA.in1.le (by exact aC _)) X R ⟨_,rfl,.h,?_⟩))
 refine ifT rfl ?_
 exact ⟨_,.h,hI⟩
end
end
section
noncomputable def tx (l:List Nat):Str:=⟨⟨l⟩⟩
theorem nF (l:List Nat) (k:Nat):tx l++(⟨⟨[k]⟩⟩:Str)=tx (l++[k]):=by
 refine (?_:(⟨(⟨l⟩:Array Nat)++⟨[k]⟩⟩:Str)=⟨⟨l++[k]⟩⟩)
 exact rP (List.append_toArray _ _) rfl
theorem eh (l:List Nat):(tx l).length=l.length:=rfl
noncomputable def isW (k:Nat):Bool:=k == 10 || k == 9 || k == 13 || k == 32
structure It where
 e:Bool
 k:Nat
noncomputable def It.raw (i:It):List Nat:=if i.e then [92,i.k] else [i.k]
noncomputable def rawOf (l:List It):List Nat:=l.flatMap It.raw
noncomputable def dL (l:List It):List Nat:=l.map It.k
noncomputable def nls (l:List Nat):Int:=(l.map nl).sum
theorem bW (k:Nat) (l:List Nat):nls (k::l)=nl k+nls l:=by unfold nls; exact rP aA (rP List.sum_cons rfl)
theorem eH (l m:List Nat):nls (l++m)=nls l+nls m:=by unfold nls; exact rP aI (rP List.sum_append rfl)
noncomputable abbrev sFi:Str:=⟨⟨[102,105,116,101,114]⟩⟩
noncomputable abbrev sTok:Str:=⟨⟨[116,111,107,101,110]⟩⟩
noncomputable abbrev sSelf:Str:=⟨⟨[115,101,108,102]⟩⟩
section
variable {c:Cst}{A:Around}{led led':Led}{Q:D->Led->Prop}{a:Addr}{fd:FuncData}
variable {Kl dx dy P P2 S B fR:Addr}{fr fdR:FuncData}{L:Int->List Nat->Led}
theorem wgt1 (V:LexV c Kl dx dy P P2 S B fr L) (ok:c.Ok) (Bn:Bui c) (hA:Aok A 6) (F:FnAt c a m9get.1 fd) (X:LexF c Kl fR fdR) (R:RdFn fr B){n:Int} (h:Q (.str ⟨⟨[]⟩⟩) (L n [])):Cc c A (.ref a) [.obj (instObj Kl dx)] (L n []) Q:=by
 refine F.call ok hA (F.bind1 (x:=sSelf) fun v=>fun u_ u_ u_ u_ u_ u_ u_ u_ u_ u_ u_ u_=>rfl) rfl rfl ?_
 intro C A' hA'
 refine Sto.lo rfl rfl .h ?_
 refine Exs.co (Ex.ite (Tst.val rfl (Ev.att rfl (Ev.lo rfl rfl .h rfl rfl (Gat.own ok X.k6.g X.k6.h X.k6.f rfl (.t (V.d n [])) rfl rfl (Tru.lstM (.t (V.p n [])) (by rw [ai]; simp) ?_))))))
 refine ifF (by decide) ?_
 refine Exs.ni (Exs.co (Ex.asg rfl (Ev.cstr (Asg.lo rfl rfl .h ?_))))
 refine Exs.co (Ex.asg rfl (Ev.ca rfl rfl (Ev.bui ok rfl rfl rfl rfl Bn.iter'.1 Bn.iter'.2 rfl ?_)))
 refine Evs.co rfl (Ev.att rfl (Ev.lo rfl rfl .h rfl rfl (Gat.mth ok X.m.g X.m.h X.m.fi X.m.gt X.m.tk X.m.ty (by decide +kernel) (.t (V.d n [])) rfl (Evs.co rfl (Ev.cstr (Evs.ni ⟨.bui,Cl.iter2 fun I=>?_⟩))))))
 refine Asg.lo rfl rfl (.t .h) ?_
 refine Exs.co (Ex.forG (fun u_=>rfl) (Ev.lo rfl rfl (.t .h) rfl rfl (Itr.cal .h ⟨I,rfl,fun u_ l=>l=(I,my fR Kl dx)::(C,.ns [(sFi,.ref I),(sTok,.str ⟨⟨[]⟩⟩),(sSelf,.obj (instObj Kl dx))])::L n [],0,rfl,?_⟩)))
 rintro _ _ rfl
 refine (V.app [(C,_)]).stp0 ok (hA'.le (by decide)) X R ?_
 exact Exs.co (Ex.ret (Ev.lo rfl rfl .h rfl rfl ⟨_,.drop .rest,h⟩))
end
end
section
noncomputable abbrev sCh:Str:=⟨⟨[99,104]⟩⟩
noncomputable abbrev sWs:Str:=⟨⟨[10,9,13,32]⟩⟩
theorem isW_in {k:Nat} (h:isW k=true):Txt.contains sWs ⟨⟨[k]⟩⟩=true:=by
 unfold isW at h
 simp only [Bool.or_eq_true,beq_iff_eq] at h
 rcases h with ((rfl | rfl) | rfl) | rfl <;> decide +kernel
theorem nl34:nl 34=0:=rfl
theorem nl92:nl 92=0:=rfl
theorem tx_ne {k j:Nat} (h:k≠j):((⟨⟨[k]⟩⟩:Str) == ⟨⟨[j]⟩⟩)=false:=by
 refine rP (propext (beq_eq_false_iff_ne)) ?_
 exact fun e=>h (by injection e with e; injection e with e; injection e)
theorem kj (i:It) (l:List It):nls (rawOf (i::l))=nls i.raw+nls (rawOf l):=by unfold rawOf; exact rP List.flatMap_cons (rP (eH _ _) rfl)
structure GF (m:List (Str×D)) (I Kl dx:Addr) (acc:List Nat):Prop where
 s:m.lookup sSelf=some (.obj (instObj Kl dx))
 f:m.lookup sFi=some (.ref I)
 t:m.lookup sTok=some (.str (tx acc))
section
variable {c:Cst}{A:Around}{led led':Led}{Q:D->Led->Prop}{a:Addr}{fd:FuncData}
variable {Kl dx dy P P2 S B fR:Addr}{fr fdR:FuncData}{L:Int->List Nat->Led}
inductive VG1 (L:Int->List Nat->Led) (main pre:List Nat) (n:Int) (I fR Kl dx C:Addr) (k:Nat) (l:Led):Prop
 | mk (pr:List Nat) (m:List (Str×D)):k=pr.length->l=(I,my fR Kl dx)::(C,.ns m)::L (n+nls pre - nls pr) (pr++main)->GF m I Kl dx []->(∀ k∈pr,isW k=true)->pr.length<=pre.length->VG1 L main pre n I fR Kl dx C k l
inductive VG2 (L:Int->List Nat->Led) (its:List It) (rest:List Nat) (n:Int) (I fR Kl dx C:Addr) (k:Nat) (l:Led):Prop
 | mk (js:List It) (acc:List Nat) (m:List (Str×D)):k=js.length->l=(I,my fR Kl dx)::(C,.ns m)::L (n+nls (rawOf its) - nls (rawOf js)) (rawOf js++34::rest)->GF m I Kl dx acc->acc++dL js=dL its->(∀ i∈js,i∈its)->js.length+acc.length<=its.length->VG2 L its rest n I fR Kl dx C k l
inductive VG3 (L:Int->List Nat->Led) (its:List It) (rest:List Nat) (e ik:Nat) (n:Int) (I fR Kl dx C:Addr) (k:Nat) (l:Led):Prop
 | mk (js:List It) (acc:List Nat) (m:List (Str×D)):k=js.length->l=(I,my fR Kl dx)::(C,.ns m)::L (n+nls (rawOf its) - nls (rawOf js)) (rawOf js++e::rest)->GF m I Kl dx acc->acc++dL js=ik::dL its->(∀ i∈js,i.e=true)->js.length+acc.length<=its.length+1->VG3 L its rest e ik n I fR Kl dx C k l
theorem wgt2 (V:LexV c Kl dx dy P P2 S B fr L) (ok:c.Ok) (Bn:Bui c) (hA:Aok A 6) (F:FnAt c a m9get.1 fd) (X:LexF c Kl fR fdR) (R:RdFn fr B){n:Int}{pre rest:List Nat}{its:List It} (hp:∀ k∈pre,isW k=true)
  (hz:pre.length+2*its.length+rest.length<=1000){main:List Nat}
  (hm:(main=34::rawOf its++34::rest/\∀ i∈its,i.e=false->i.k≠34/\i.k≠92)\/(∃ e,main=rawOf its++e::rest/\isW e=true/\its≠[]/\∀ i∈its,i.e=true))
  (h:Q (.str (tx (dL its))) (L (n+nls (pre++main) - nls rest) rest)):Cc c A (.ref a) [.obj (instObj Kl dx)] (L n (pre++main)) Q:=by
 have hraw:∀ l:List It,(rawOf l).length<=2*l.length:=fun l=>by
  induction l with
  | nil=>exact aC _
  | cons i l ih=>
   refine (?_:(i.raw++rawOf l).length<=_)
   refine rP aH (rP aJ ?_)
   have:i.raw.length<=2:=by unfold It.raw; split <;> simp
   exact mul4 ih (by assumption)
 have hmain:main.length<=2*its.length+rest.length+2:=by
  rcases hm with ⟨rfl,_⟩ | ⟨e,rfl,_⟩
  ·have:=hraw its; simp; lia
  ·have:=hraw its; simp; lia
 refine F.call ok hA (F.bind1 (x:=sSelf) fun v=>fun u_ u_ u_ u_ u_ u_ u_ u_ u_ u_ u_ u_=>rfl) rfl rfl ?_
 intro C A' hA'
 refine Sto.lo rfl rfl .h ?_
 refine Exs.co (Ex.ite (Tst.val rfl (Ev.att rfl (Ev.lo rfl rfl .h rfl rfl (Gat.own ok X.k6.g X.k6.h X.k6.f rfl (.t (V.d n _)) rfl rfl (Tru.lstM (.t (V.p n _)) (by rw [ai]; simp) ?_))))))
 refine ifF (by decide) ?_
 refine Exs.ni (Exs.co (Ex.asg rfl (Ev.cstr (Asg.lo rfl rfl .h ?_))))
 refine Exs.co (Ex.asg rfl (Ev.ca rfl rfl (Ev.bui ok rfl rfl rfl rfl Bn.iter'.1 Bn.iter'.2 rfl ?_)))
 refine Evs.co rfl (Ev.att rfl (Ev.lo rfl rfl .h rfl rfl (Gat.mth ok X.m.g X.m.h X.m.fi X.m.gt X.m.tk X.m.ty (by decide +kernel) (.t (V.d n _)) rfl (Evs.co rfl (Ev.cstr (Evs.ni ⟨.bui,Cl.iter2 fun I=>?_⟩))))))
 refine Asg.lo rfl rfl (.t .h) ?_
 refine Exs.co (Ex.forG (fun u_=>rfl) (Ev.lo rfl rfl (.t .h) rfl rfl (Itr.cal .h ⟨I,rfl,VG1 L main pre n I fR Kl dx C,pre.length,⟨pre,_,rfl,by exact rP (show n+nls pre - nls pre=n by exact Int.add_sub_cancel _ _) rfl,⟨rfl,rfl,rfl⟩,hp,aC _⟩,?_⟩)))
 rintro _ _ ⟨pr,m,rfl,rfl,G,hpr,hprl⟩
 induction pr using List.casesOn with
 | cons k pr=>
  rw [aJ] at hprl
  refine (V.app [(C,_)]).stp ok (hA'.le (by decide)) X R (cs:=pr++main) (by refine rP aH ?_; lia) ?_
  refine Asg.lo rfl rfl (.t .h) ?_
  refine Exs.co (Ex.ite (Tst.cmp rfl (Ev.lo rfl rfl (.t .h) rfl rfl (Ev.att rfl (Ev.lo rfl rfl (.t .h) G.s rfl (Gat.own ok X.k5.g X.k5.h X.k5.f rfl (.t (.t (V.d _ _))) rfl rfl (Cmp.inS ⟨_,rfl,?_⟩)))))))
  refine ifT (isW_in (hpr k (.head _))) ?_
  refine Exs.co (Ex.cont ⟨pr.length,by refine rP aJ ?_; exact aC _,pr,(sCh,.str ⟨⟨[k]⟩⟩)::m,rfl,?_,⟨G.s,G.f,G.t⟩,fun k hk=>hpr k (.tail _ hk),by exact nL hprl⟩)
  refine rP (bW _ _) ?_
  refine rP (show n+nls pre - (nl k+nls pr)+nl k=n+nls pre - nls pr by lia) ?_
  rfl
 | nil=>
 simp only [List.nil_append]
 refine rP (show n+nls pre - nls []=n+nls pre from by show n+nls pre - 0=_; exact Int.add_zero _) ?_
 rw [eH,<- Int.add_assoc] at h
 generalize n+nls pre=n at h ⊢
 rcases hm with ⟨rfl,hi⟩ | ⟨e,rfl,he,hne,hi⟩
 ·refine (V.app [(C,_)]).stp ok (hA'.le (by decide)) X R (k:=34) (cs:=rawOf its++34::rest) (by have:=hraw its; simp; lia) ?_
  refine Asg.lo rfl rfl (.t .h) ?_
  refine Exs.co (Ex.ite (Tst.cmp rfl (Ev.lo rfl rfl (.t .h) rfl rfl (Ev.att rfl (Ev.lo rfl rfl (.t .h) G.s rfl (Gat.own ok X.k5.g X.k5.h X.k5.f rfl (.t (.t (V.d _ _))) rfl rfl (Cmp.inS ⟨_,rfl,?_⟩)))))))
  refine ifF (by decide +kernel) ?_
  refine Exs.ni (Exs.co (Ex.ite (Tst.cmp rfl (Ev.lo rfl rfl (.t .h) rfl rfl (Ev.cstr (Cmp.eqS ⟨_,rfl,?_⟩))))))
  refine ifT (by decide) ?_
  refine rP nl34 (rP (Int.add_zero _) ?_)
  have h2:Q (.str (tx (dL its))) (L (n+nls (rawOf its)) rest):=by
   rw [show nls (34::rawOf its++34::rest)=nls (rawOf its)+nls rest by refine rP (eH _ _) (rP (bW _ _) (rP (bW _ _) (rP nl34 ?_))); lia] at h
   rw [show n+(nls (rawOf its)+nls rest) - nls rest=n+nls (rawOf its) by lia] at h
   exact h
  clear h
  have hl:=hraw its
  refine Exs.co (Ex.forG (fun u_=>rfl) (Ev.lo rfl rfl (.t .h) G.f rfl (Itr.cal .h ⟨I,rfl,VG2 L its rest n I fR Kl dx C,its.length,⟨its,[],(sCh,.str ⟨⟨[34]⟩⟩)::m,rfl,by refine rP (show n+nls (rawOf its) - nls (rawOf its)=n by exact Int.add_sub_cancel _ _) ?_; rfl,⟨G.s,G.f,G.t⟩,rfl,fun u_ h=>h,by simp⟩,?_⟩)))
  rintro _ _ ⟨js,acc,m,rfl,rfl,G,ha,hj,hjl⟩
  induction js using List.casesOn with
  | nil=>
   refine (V.app [(C,_)]).stp ok (hA'.le (by decide)) X R (k:=34) (cs:=rest) (by exact nD (nT (Nat.le_add_left _ _) hz) rfl) ?_
   refine Asg.lo rfl rfl (.t .h) ?_
   refine Exs.co (Ex.ite (Tst.cmp rfl (Ev.lo rfl rfl (.t .h) rfl rfl (Ev.cstr (Cmp.eqS ⟨_,rfl,?_⟩)))))
   refine ifT (by decide) ?_
   refine Exs.co (Ex.ret (Ev.lo rfl rfl (.t .h) G.t rfl ⟨_,.drop (.drop .rest),?_⟩))
   refine rP (show n+nls (rawOf its) - nls (rawOf [])+nl 34=n+nls (rawOf its) by show _ - 0+0=_; exact Int.add_sub_cancel _ _) ?_
   refine rP (show acc=dL its by rw [<- ha]; simp [dL]) ?_
   exact h2
  | cons i js=>
   rw [aJ] at hjl
   have hjs:=hraw js
   obtain ⟨ie,ik⟩:=i
   have hin:=hi _ (hj _ (.head _))
   have e1:nls (rawOf (⟨ie,ik⟩::js))=nls (It.raw ⟨ie,ik⟩)+nls (rawOf js):=kj _ _
   have fin:∀ m',GF m' I Kl dx acc->m'.lookup sCh=some (.str ⟨⟨[ik]⟩⟩)->∀ N,N=n+nls (rawOf its) - nls (rawOf js)->∀ QQ,(∀ m'',GF m'' I Kl dx (acc++[ik])->QQ Fl.next ((I,my fR Kl dx)::(C,.ns m'')::L N (rawOf js++34::rest)))->
     Exs c A' (fE fd m9get.1 a C []) [.AugAssign (.Name sTok ⟨90,20,90,25⟩) .Add (.Name sCh ⟨90,29,90,31⟩) ⟨90,20,90,31⟩] ((I,my fR Kl dx)::(C,.ns m')::L N (rawOf js++34::rest)) QQ:=fun m' G' hc N hN QQ q=>by
    refine Exs.co (Ex.augN (Ldn.loc rfl rfl (.t .h) G'.t (Ev.lo rfl rfl (.t .h) hc rfl (Inp.addS (by refine rP (eh _) (rP ai ?_); show _+1<=_; lia) (Sto.lo rfl rfl (.t .h) (Exs.ni (q _ ⟨G'.s,G'.f,?_⟩)))))))
    refine rP (nF _ _) ?_; rfl
   have don:∀ m'',GF m'' I Kl dx (acc++[ik])->∀ N,N=n+nls (rawOf its) - nls (rawOf js)->LT (⟨ie,ik⟩::js:List It).length (VG2 L its rest n I fR Kl dx C) ((I,my fR Kl dx)::(C,.ns m'')::L N (rawOf js++34::rest)):=fun m'' G'' N hN=>
    ⟨js.length,by simp,js,acc++[ik],m'',rfl,by exact rP hN rfl,G'',by refine rQ ha ?_; simp [dL],fun i hh=>hj i (.tail _ hh),by simp; exact lenB hjl⟩
   induction ie with
   | false=>
    obtain ⟨n34,n92⟩:=hin rfl
    refine (V.app [(C,_)]).stp ok (hA'.le (by decide)) X R (k:=ik) (cs:=rawOf js++34::rest) (by simp; lia) ?_
    refine Asg.lo rfl rfl (.t .h) ?_
    refine Exs.co (Ex.ite (Tst.cmp rfl (Ev.lo rfl rfl (.t .h) rfl rfl (Ev.cstr (Cmp.eqS ⟨_,rfl,?_⟩)))))
    refine rP (tx_ne n34) (ifF (by decide) ?_)
    refine Exs.co (Ex.ite (Tst.cmp rfl (Ev.lo rfl rfl (.t .h) rfl rfl (Ev.cstr (Cmp.eqS ⟨_,rfl,?_⟩)))))
    refine rP (tx_ne n92) (ifF (by decide) ?_)
    have eN:n+nls (rawOf its) - nls (rawOf (⟨false,ik⟩::js))+nl ik=n+nls (rawOf its) - nls (rawOf js):=by
     refine rP e1 (rP (show nls (It.raw ⟨false,ik⟩)=nl ik+0 from bW _ _) ?_); lia
    refine Exs.ni (Exs.ni (fin ((sCh,.str ⟨⟨[ik]⟩⟩)::m) ⟨G.s,G.f,G.t⟩ rfl _ eN _ fun m'' G''=>don m'' G'' _ eN))
   | true=>
    refine (V.app [(C,_)]).stp ok (hA'.le (by decide)) X R (k:=92) (cs:=ik::(rawOf js++34::rest)) (by simp; lia) ?_
    refine Asg.lo rfl rfl (.t .h) ?_
    refine Exs.co (Ex.ite (Tst.cmp rfl (Ev.lo rfl rfl (.t .h) rfl rfl (Ev.cstr (Cmp.eqS ⟨_,rfl,?_⟩)))))
    refine ifF (by decide) ?_
    refine Exs.co (Ex.ite (Tst.cmp rfl (Ev.lo rfl rfl (.t .h) rfl rfl (Ev.cstr (Cmp.eqS ⟨_,rfl,?_⟩)))))
    refine ifT (by decide) ?_
    refine Exs.co (Ex.asg rfl (Ev.meth rfl rfl rfl rfl (Ev.lo rfl rfl (.t .h) G.s rfl (Mth.inst ok X.m.g X.m.fi X.m.fn (.t (.t (V.d _ _))) rfl (Evs.ni ⟨X.f.kpr,Cl.of ((V.app [(I,_),(C,_)]).read ok (hA'.le (by decide)) X R (by simp; omega) ?_)⟩)))))
    refine Asg.lo rfl rfl (.t .h) ?_
    have eN:n+nls (rawOf its) - nls (rawOf (⟨true,ik⟩::js))+nl 92+nl ik=n+nls (rawOf its) - nls (rawOf js):=by
     refine rP e1 (rP nl92 (rP (show nls (It.raw ⟨true,ik⟩)=nl 92+nls [ik] from bW _ _) (rP nl92 (rP (show nls [ik]=nl ik+0 from bW _ _) ?_)))); lia
    exact Exs.ni (Exs.ni (fin ((sCh,.str ⟨⟨[ik]⟩⟩)::(sCh,.str ⟨⟨[92]⟩⟩)::m) ⟨G.s,G.f,G.t⟩ rfl _ eN _ fun m'' G''=>don m'' G'' _ eN))
 ·induction its using List.casesOn with
  | nil=>exact absurd rfl hne
  | cons i its=>
  obtain ⟨ie,ik⟩:=i
  have hie:ie=true:=hi _ (.head _)
  subst hie
  rw [aJ] at hz
  have hl:=hraw its
  have h2:Q (.str (tx (ik::dL its))) (L (n+nl ik+nls (rawOf its)+nl e) rest):=by
   rw [show nls (rawOf (⟨true,ik⟩::its)++e::rest)=nl ik+nls (rawOf its)+nl e+nls rest by
    rw [eH,bW,kj,show nls (It.raw ⟨true,ik⟩)=nl 92+nls [ik] from bW _ _,nl92,show nls [ik]=nl ik+0 from bW _ _]; lia] at h
   rw [show n+(nl ik+nls (rawOf its)+nl e+nls rest) - nls rest=n+nl ik+nls (rawOf its)+nl e by lia] at h
   exact h
  clear h
  refine (V.app [(C,_)]).stp ok (hA'.le (by decide)) X R (k:=92) (cs:=ik::(rawOf its++e::rest)) (by simp; lia) ?_
  refine Asg.lo rfl rfl (.t .h) ?_
  refine Exs.co (Ex.ite (Tst.cmp rfl (Ev.lo rfl rfl (.t .h) rfl rfl (Ev.att rfl (Ev.lo rfl rfl (.t .h) G.s rfl (Gat.own ok X.k5.g X.k5.h X.k5.f rfl (.t (.t (V.d _ _))) rfl rfl (Cmp.inS ⟨_,rfl,?_⟩)))))))
  refine ifF (by decide +kernel) ?_
  refine Exs.ni (Exs.co (Ex.ite (Tst.cmp rfl (Ev.lo rfl rfl (.t .h) rfl rfl (Ev.cstr (Cmp.eqS ⟨_,rfl,?_⟩))))))
  refine ifF (by decide) ?_
  refine Exs.co (Ex.ite (Tst.cmp rfl (Ev.lo rfl rfl (.t .h) rfl rfl (Ev.cstr (Cmp.eqS ⟨_,rfl,?_⟩)))))
  refine ifT (by decide) ?_
  refine Exs.co (Ex.asg rfl (Ev.meth rfl rfl rfl rfl (Ev.lo rfl rfl (.t .h) G.s rfl (Mth.inst ok X.m.g X.m.fi X.m.fn (.t (.t (V.d _ _))) rfl (Evs.ni ⟨X.f.kpr,Cl.of ((V.app [(I,_),(C,_)]).read ok (hA'.le (by decide)) X R (by simp; lia) ?_)⟩)))))
  refine Asg.lo rfl rfl (.t .h) ?_
  refine Exs.ni (Exs.co (Ex.augN (Ldn.loc rfl rfl (.t .h) G.t (Ev.lo rfl rfl (.t .h) rfl rfl (Inp.addS (by refine rP (eh _) (rP ai ?_); show 0+1<=_; decide) (Sto.lo rfl rfl (.t .h) ?_))))))
  refine rP (nF _ _) (rP nl92 (rP (Int.add_zero _) ?_))
  generalize n+nl ik=n at h2 ⊢
  refine Exs.co (Ex.forG (fun u_=>rfl) (Ev.lo rfl rfl (.t .h) G.f rfl (Itr.cal .h ⟨I,rfl,VG3 L its rest e ik n I fR Kl dx C,its.length,⟨its,[ik],(sTok,.str (tx [ik]))::(sCh,.str ⟨⟨[ik]⟩⟩)::(sCh,.str ⟨⟨[92]⟩⟩)::m,rfl,by refine rP (show n+nls (rawOf its) - nls (rawOf its)=n by exact Int.add_sub_cancel _ _) ?_; rfl,⟨G.s,G.f,rfl⟩,rfl,fun i h=>hi i (.tail _ h),by simp⟩,?_⟩)))
  rintro _ _ ⟨js,acc,m,rfl,rfl,G,ha,hj,hjl⟩
  induction js using List.casesOn with
  | nil=>
   refine (V.app [(C,_)]).stp ok (hA'.le (by decide)) X R (k:=e) (cs:=rest) (by exact nD (nT (Nat.le_add_left _ _) hz) rfl) ?_
   refine Asg.lo rfl rfl (.t .h) ?_
   refine Exs.co (Ex.ite (Tst.cmp rfl (Ev.lo rfl rfl (.t .h) rfl rfl (Ev.att rfl (Ev.lo rfl rfl (.t .h) G.s rfl (Gat.own ok X.k5.g X.k5.h X.k5.f rfl (.t (.t (V.d _ _))) rfl rfl (Cmp.inS ⟨_,rfl,?_⟩)))))))
   refine ifT (isW_in he) ?_
   refine Exs.co (Ex.ret (Ev.lo rfl rfl (.t .h) G.t rfl ⟨_,.drop (.drop .rest),?_⟩))
   refine rP (show n+nls (rawOf its) - nls (rawOf [])+nl e=n+nls (rawOf its)+nl e by show _ - 0+_=_; lia) ?_
   refine rP (show acc=ik::dL its by rw [<- ha]; simp [dL]) ?_
   exact h2
  | cons i js=>
   rw [aJ] at hjl
   have hjs:=hraw js
   obtain ⟨ie,jk⟩:=i
   have hie:ie=true:=hj _ (.head _)
   subst hie
   refine (V.app [(C,_)]).stp ok (hA'.le (by decide)) X R (k:=92) (cs:=jk::(rawOf js++e::rest)) (by simp; lia) ?_
   refine Asg.lo rfl rfl (.t .h) ?_
   refine Exs.co (Ex.ite (Tst.cmp rfl (Ev.lo rfl rfl (.t .h) rfl rfl (Ev.att rfl (Ev.lo rfl rfl (.t .h) G.s rfl (Gat.own ok X.k5.g X.k5.h X.k5.f rfl (.t (.t (V.d _ _))) rfl rfl (Cmp.inS ⟨_,rfl,?_⟩)))))))
   refine ifF (by decide +kernel) ?_
   refine Exs.co (Ex.ite (Tst.cmp rfl (Ev.lo rfl rfl (.t .h) rfl rfl (Ev.cstr (Cmp.eqS ⟨_,rfl,?_⟩)))))
   refine ifT (by decide) ?_
   refine Exs.co (Ex.asg rfl (Ev.meth rfl rfl rfl rfl (Ev.lo rfl rfl (.t .h) G.s rfl (Mth.inst ok X.m.g X.m.fi X.m.fn (.t (.t (V.d _ _))) rfl (Evs.ni ⟨X.f.kpr,Cl.of ((V.app [(I,_),(C,_)]).read ok (hA'.le (by decide)) X R (by simp; lia) ?_)⟩)))))
   refine Asg.lo rfl rfl (.t .h) ?_
   refine Exs.ni (Exs.ni (Exs.co (Ex.augN (Ldn.loc rfl rfl (.t .h) G.t (Ev.lo rfl rfl (.t .h) rfl rfl (Inp.addS (by refine rP (eh _) (rP ai ?_); show _+1<=_; lia) (Sto.lo rfl rfl (.t .h) (Exs.ni ?_))))))))
   refine rP (nF _ _) ?_
   refine ⟨js.length,by simp,js,acc++[jk],(sTok,.str (tx (acc++[jk])))::(sCh,.str ⟨⟨[jk]⟩⟩)::(sCh,.str ⟨⟨[92]⟩⟩)::m,rfl,?_,⟨G.s,G.f,rfl⟩,by refine rQ ha ?_; simp [dL],fun i hh=>hj i (.tail _ hh),by simp; lia⟩
   refine rP (kj _ _) (rP (show nls (It.raw ⟨true,jk⟩)=nl 92+nls [jk] from bW _ _) (rP nl92 (rP (show nls [jk]=nl jk+0 from bW _ _) ?_)))
   refine rP (show n+nls (rawOf its) - (0+(nl jk+0)+nls (rawOf js))+0+nl jk=n+nls (rawOf its) - nls (rawOf js) by lia) ?_
   rfl
end
end
end Mine.Internal
end
section
namespace Mine.Internal
section
noncomputable def sm (f:Nat->Nat) (n:Nat):Nat:=n.rec 0 fun k s=>s+f k
theorem bJ (f:Nat->Nat) (n:Nat):sm f (n+1)=sm f n+f n:=rfl
theorem cu {f g:Nat->Nat}{n:Nat} (h:∀ j,j<n->f j=g j):sm f n=sm g n:=by
 induction n with
 | zero=>rfl
 | succ n ih=>exact rP (bJ _ _) (rP (bJ _ _) (rP (ih fun j hj=>h j (by exact nT hj (aD _ _))) (rP (h n (by exact aC _)) rfl)))
theorem sm_le {f g:Nat->Nat}{n:Nat} (h:∀ j,j<n->f j<=g j):sm f n<=sm g n:=by
 induction n with
 | zero=>exact aC _
 | succ n ih=>refine rP (bJ _ _) (rP (bJ _ _) ?_); have:=ih fun j hj=>h j (by exact nT hj (aD _ _)); have:=h n (by exact aC _); lia
theorem lg (f g:Nat->Nat) (n:Nat):sm (fun j=>f j+g j) n=sm f n+sm g n:=by
 induction n with
 | zero=>rfl
 | succ n ih=>refine rP (bJ _ _) (rP (bJ _ _) (rP (bJ _ _) (rP ih ?_))); exact Nat.add_add_add_comm ..
theorem sm_zero {f:Nat->Nat}{n:Nat}:sm f n=0↔∀ j,j<n->f j=0:=by
 induction n with
 | zero=>exact ⟨fun u_ j h=>absurd h (by exact Nat.not_lt_of_le (aO _)),fun u_=>rfl⟩
 | succ n ih=>
  refine rP (bJ _ _) ?_
  constructor
  ·intro h j hj
   by_cases e:j=n
   ·subst e; exact Nat.le_antisymm (nT (Nat.le_add_left _ _) (aq h)) (aO _)
   ·exact ih.mp (by exact Nat.le_antisymm (nT (aD _ _) (aq h)) (aO _)) j (by exact ltNe hj (by assumption))
  ·intro h
   have:=ih.mpr fun j hj=>h j (by exact nT hj (aD _ _))
   have:=h n (by exact aC _)
   lia
theorem sm_pos {f:Nat->Nat}{n:Nat} (h:0<sm f n):∃ j,j<n/\0<f j:=by
 induction n with
 | zero=>exact absurd h (by show ¬ 0<0; exact Nat.not_lt_of_le (aO _))
 | succ n ih=>
  rw [bJ] at h
  by_cases q:0<f n
  ·exact ⟨n,by exact aC _,q⟩
  ·obtain ⟨j,h1,h2⟩:=ih (by omega)
   exact ⟨j,by exact nT h1 (aD _ _),h2⟩
theorem nG {f:Nat->Nat}{n j:Nat} (h:j<n):f j<=sm f n:=by
 induction n with
 | zero=>lia
 | succ n ih=>
  refine rP (bJ _ _) ?_
  by_cases e:j=n
  ·subst e; exact Nat.le_add_left _ _
  ·have:=ih (by exact ltNe h (by assumption)); exact nT this (aD _ _)
theorem nH {f g:Nat->Nat}{n k:Nat} (hk:k<n) (h:∀ j,j<n->j≠k->f j=g j) (e:g k=f k+1):sm g n=sm f n+1:=by
 induction n with
 | zero=>exact (sub1' hk).symm
 | succ n ih=>
  refine rP (bJ _ _) (rP (bJ _ _) ?_)
  by_cases q:k=n
  ·subst q
   refine rP (cu (n:=k) fun j hj=>h j (by exact nT hj (nL hk)) (by exact Nat.ne_of_lt hj)) ?_; lia
  ·refine rP (ih (by exact ltNe hk (by assumption)) fun j hj=>h j (by exact nT hj (aD _ _))) (rP (h n (by exact aC _) (by lia)) ?_); exact ba _ _ _
structure Sys where
 n:Nat
 came:Nat->Nat
 work:Nat->Nat
 lt:Nat->Nat->Bool
noncomputable def Sys.sv0 (S:Sys) (r:Nat->Nat) (t k:Nat):Bool:=decide (S.came k<=t) && decide (0<r k) && (List.range S.n).all fun j=>!(S.lt j k && decide (S.came j<=t) && decide (0<r j))
noncomputable def Sys.rem (S:Sys) (t:Nat):Nat->Nat:=t.rec S.work fun t r k=>r k - if S.sv0 r t k then 1 else 0
noncomputable def Sys.sv (S:Sys) (t k:Nat):Bool:=S.sv0 (S.rem t) t k
structure Sys.Ok (S:Sys):Prop where
 w:∀ k,k<S.n->0<S.work k
 irr:∀ k,S.lt k k=false
 tot:∀ j k,j<S.n->k<S.n->j≠k->S.lt j k = !S.lt k j
 tr:∀ i j k,S.lt i j=true->S.lt j k=true->S.lt i k=true
namespace Sys
variable {S:Sys}
theorem lh (k:Nat):S.rem 0 k=S.work k:=rfl
theorem bH (t k:Nat):S.rem (t+1) k=S.rem t k - if S.sv t k then 1 else 0:=rfl
noncomputable def pres (S:Sys) (t k:Nat):Prop:=S.came k<=t/\0<S.rem t k
theorem sv_iff {t k:Nat}:S.sv t k=true↔S.pres t k/\∀ j,j<S.n->S.lt j k=true->¬ S.pres t j:=by
 unfold sv sv0 pres
 simp only [Bool.and_eq_true,decide_eq_true_eq,List.all_eq_true,List.mem_range,Bool.not_eq_true',Bool.and_eq_false_iff,decide_eq_false_iff_not]
 refine ⟨fun ⟨h1,h2⟩=>⟨h1,fun j hj hl hp=>?_⟩,fun ⟨h1,h2⟩=>⟨h1,fun j hj=>?_⟩⟩
 ·rcases h2 j hj with (h | h) | h
  ·rw [hl] at h; exact tF h
  ·exact h hp.1
  ·exact h hp.2
 ·cases hl:S.lt j k with
  | false=>exact .inl (.inl rfl)
  | true=>
   have:=h2 j hj hl
   by_cases q:S.came j<=t
   ·exact .inr fun h=>this ⟨q,h⟩
   ·exact .inl (.inr q)
theorem best (o:S.Ok){p:Nat->Prop}{m:Nat} (hm:m<=S.n) (h:∃ j,j<m/\p j):∃ k,k<m/\p k/\∀ j,j<m->p j->j≠k->S.lt k j=true:=by
 induction m with
 | zero=>obtain ⟨j,h,_⟩:=h; lia
 | succ m ih=>
  by_cases q:∃ j,j<m/\p j
  ·obtain ⟨k,h1,h2,h3⟩:=ih (by exact nL hm) q
   by_cases pm:p m
   ·cases hl:S.lt k m with
    | true=>
     refine ⟨k,by exact nT h1 (aD _ _),h2,fun j hj pj hjk=>?_⟩
     by_cases e:j=m
     ·subst e; exact hl
     ·exact h3 j (by exact ltNe hj (by assumption)) pj hjk
    | false=>
     have hl2:S.lt m k=true:=by refine rP (o.tot m k (by exact hm) (by exact nT h1 (nL hm)) (by exact Nat.ne_of_gt h1)) (rP hl ?_); rfl
     refine ⟨m,by exact aC _,pm,fun j hj pj hjm=>?_⟩
     by_cases e:j=k
     ·subst e; exact hl2
     ·exact o.tr _ _ _ hl2 (h3 j (by exact ltNe hj (by assumption)) pj e)
   ·refine ⟨k,by exact nT h1 (aD _ _),h2,fun j hj pj hjk=>?_⟩
    by_cases e:j=m
    ·subst e; exact absurd pj pm
    ·exact h3 j (by exact ltNe hj (by assumption)) pj hjk
  ·obtain ⟨j,h1,h2⟩:=h
   have e:j=m:=by
    by_cases e:j=m
    ·exact e
    ·exact absurd ⟨j,by exact ltNe h1 (by assumption),h2⟩ q
   subst e
   exact ⟨j,by exact h1,h2,fun i hi pi hij=>absurd ⟨i,by exact ltNe hi (by assumption),pi⟩ q⟩
theorem sv_some (o:S.Ok){t:Nat} (h:∃ j,j<S.n/\S.pres t j):∃ k,k<S.n/\S.sv t k=true/\∀ j,j<S.n->S.pres t j->j≠k->S.lt k j=true:=by
 obtain ⟨k,h1,h2,h3⟩:=best o (aC _) h
 refine ⟨k,h1,sv_iff.mpr ⟨h2,fun j hj hl hp=>?_⟩,h3⟩
 by_cases e:j=k
 ·subst e; rw [o.irr] at hl; exact fT hl
 ·have:=h3 j hj hp e
  rw [o.tot j k hj h1 e,this] at hl; exact fT hl
theorem iA (o:S.Ok){t j k:Nat} (hj:j<S.n) (hk:k<S.n) (h1:S.sv t j=true) (h2:S.sv t k=true):j=k:=by
 obtain ⟨p1,q1⟩:=sv_iff.mp h1
 obtain ⟨p2,q2⟩:=sv_iff.mp h2
 by_cases e:j=k
 ·exact e
 ·cases hl:S.lt j k with
  | true=>exact absurd p1 (q2 j hj hl)
  | false=>
   have:S.lt k j=true:=by refine rP (o.tot k j hk hj (Ne.symm e)) (rP hl ?_); rfl
   exact absurd p2 (q1 k hk this)
theorem cH {t k:Nat} (h:t<=S.came k):S.rem t k=S.work k:=by
 induction t with
 | zero=>rfl
 | succ t ih=>
  refine rP (bH _ _) (rP (ih (by exact nL h)) ?_)
  have:S.sv t k=false:=by
   cases e:S.sv t k with
   | false=>rfl
   | true=>have:=(sv_iff.mp e).1.1; exact (aN h this).elim
  refine rP this ?_; rfl
theorem gQ {t k:Nat}:S.rem (t+1) k<=S.rem t k:=by refine rP (bH _ _) ?_; exact Nat.sub_le _ _
theorem rem_drop {t k:Nat}:S.rem t k<=S.rem (t+1) k+1:=by refine rP (bH _ _) ?_; split <;> lia
noncomputable def Up (S:Sys) (A:Nat->Bool):Prop:=∀ i j,i<S.n->j<S.n->A i=true->S.lt j i=true->A j=true
noncomputable def X (S:Sys) (A:Nat->Bool) (t:Nat):Nat:=sm (fun j=>if A j && decide (S.came j<t) then S.rem t j else 0) S.n
noncomputable def W (S:Sys) (A:Nat->Bool) (r t:Nat):Nat:=sm (fun j=>if A j && decide (r<=S.came j) && decide (S.came j<t) then S.work j else 0) S.n
theorem W_step {A:Nat->Bool}{r t:Nat} (h:r<=t):S.W A r (t+1)=S.W A r t+S.W A t (t+1):=by
 unfold W
 refine rQ (lg _ _ _) ?_
 refine cu fun j u_=>?_
 induction A j with
 | false=>rfl
 | true=>
  simp only [Bool.true_and,Bool.and_eq_true,decide_eq_true_eq]
  by_cases h1:S.came j<t
  ·refine rP (aX (show ¬ (t<=S.came j/\S.came j<t+1) by lia)) ?_
   by_cases h2:r<=S.came j
   ·refine rP (aY (by exact ⟨h2,(nT h1 (aD _ _))⟩)) (rP (aY (by exact ⟨h2,h1⟩)) ?_); rfl
   ·exact rP (aX (by lia)) (rP (aX (by lia)) rfl)
  ·refine rP (aX (show ¬ (r<=S.came j/\S.came j<t) by omega)) ?_
   by_cases h2:S.came j<t+1
   ·refine rP (aY (by exact ⟨(nT h (aZ h1)),h2⟩)) (rP (aY (by exact ⟨(aZ h1),h2⟩)) ?_); exact (Nat.zero_add _).symm
   ·exact rP (aX (by omega)) (rP (aX (by omega)) rfl)
theorem X_step (o:S.Ok){A:Nat->Bool} (u:S.Up A) (t:Nat):S.X A (t+1)=S.X A t+S.W A t (t+1) - 1:=by
 have e:S.X A t+S.W A t (t+1)=sm (fun j=>if A j && decide (S.came j<=t) then S.rem t j else 0) S.n:=by
  unfold X W
  refine rQ (lg _ _ _) ?_
  refine cu fun j u_=>?_
  induction A j with
  | false=>rfl
  | true=>
   simp only [Bool.true_and,Bool.and_eq_true,decide_eq_true_eq]
   by_cases h1:S.came j<t
   ·refine rP (aY h1) (rP (aX (by omega)) (rP (aY (by exact nL h1)) ?_)); rfl
   ·refine rP (aX h1) ?_
    by_cases h2:S.came j=t
    ·refine rP (aY (by exact ⟨(aq h2.symm),(aB (aq h2))⟩)) (rP (aY (by exact aq h2)) (rP (cH (by exact aq h2.symm)) ?_)); exact Nat.add_comm _ _
    ·exact rP (aX (by lia)) (rP (aX (by lia)) rfl)
 refine rP e ?_
 by_cases q:∃ j,j<S.n/\(A j=true/\S.pres t j)
 ·obtain ⟨j,hj,aj,pj⟩:=q
  obtain ⟨k,hk,sk,bk⟩:=sv_some o ⟨j,hj,pj⟩
  have ak:A k=true:=by
   by_cases e:j=k
   ·subst e; exact aj
   ·exact u j k hj hk aj (bk j hj pj e)
  have pk:=(sv_iff.mp sk).1
  have:=nH (f:=fun j=>if A j && decide (S.came j<t+1) then S.rem (t+1) j else 0) (g:=fun j=>if A j && decide (S.came j<=t) then S.rem t j else 0) hk (fun i hi hik=>by
   have:S.sv t i=false:=by
    cases e:S.sv t i with
    | false=>rfl
    | true=>exact absurd (iA o hi hk e sk) hik
   simp only [bH,this,Bool.false_eq_true,if_false,Nat.sub_zero]
   simp only [show (S.came i<t+1)=(S.came i<=t) by apply propext; exact Nat.lt_succ_iff]) (by
   simp only [bH,sk,ak,if_true,Bool.true_and,decide_eq_true_eq]
   have:=pk.1
   have:=pk.2
   refine rP (aY (by lia)) (rP (aY (by lia)) ?_); exact Nat.succ_sub this)
  unfold X
  exact (Nat.sub_eq_of_eq_add this).symm
 ·have z:sm (fun j=>if A j && decide (S.came j<=t) then S.rem t j else 0) S.n=0:=sm_zero.mpr fun j hj=>by
   cases h:A j with
   | false=>rfl
   | true=>
    by_cases h2:S.came j<=t
    ·have:S.rem t j=0:=by
      by_cases h3:S.rem t j=0
      ·exact h3
      ·exact absurd ⟨j,hj,h,h2,by exact bn h3⟩ q
     refine rP this ?_; split <;> rfl
    ·exact rP (aX (by simp [h2])) rfl
  refine rP z ?_
  refine (?_:S.X A (t+1)=0)
  refine sm_zero.mpr fun j hj=>?_
  have:=sm_zero.mp z j hj
  by_cases c:(A j && decide (S.came j<t+1))=true
  ·refine rP (aY c) ?_
   simp only [Bool.and_eq_true,decide_eq_true_eq] at c
   rw [aY (by simp [c.1]; exact Nat.sub_le_of_le_add c.2)] at this
   have:=gQ (S:=S) (t:=t) (k:=j)
   lia
  ·exact rP (aX c) rfl
theorem ar1 {x' x w d W:Nat} (h:0<x') (e:x'=x+w - 1) (eW:W=x+d):W+w=x'+(d+1):=by
 exact rP eW (rQ (Nat.add_assoc _ _ _) (rP (ba x' d 1) (rP e (rP (Nat.sub_add_cancel (Nat.lt_of_lt_of_le h (e ▸ Nat.sub_le _ _))) (rP (ba _ _ _) rfl)))))
theorem le_pred:∀ k:Nat,k<=k - 1+1
 | 0=>aO _
 | k+1=>aC _
theorem ar2 {x w d W:Nat} (h:W<=x+d):W+w<=x+w - 1+(d+1):=by
 refine Nat.le_trans (Nat.add_le_add_right h w) ?_
 refine rP (ba x d w) (rQ (Nat.add_assoc _ _ _) (rP (ba _ d 1) ?_))
 exact Nat.add_le_add_right (le_pred _) d
theorem X_ge (o:S.Ok){A:Nat->Bool} (u:S.Up A){r t:Nat} (h:r<=t):S.W A r t<=S.X A t+(t - r):=by
 induction t with
 | zero=>
  have:S.W A r 0=0:=sm_zero.mpr fun j hj=>by exact rP (aX (by simp)) rfl
  exact nT (aq this) (aO _)
 | succ t ih=>
  by_cases e:r=t+1
  ·subst e
   have:S.W A (t+1) (t+1)=0:=sm_zero.mpr fun j hj=>by exact rP (aX (by simp <;> omega)) rfl
   exact nT (aq this) (aO _)
  ·have:=ih (by exact leNe h (by assumption))
   have hl:=leNe h e
   refine rP (W_step hl) (rP (X_step o u _) (rP (Nat.succ_sub hl) ?_))
   exact ar2 this
theorem X_zero {A:Nat->Bool}:S.X A 0=0:=sm_zero.mpr fun j u_=>by exact rP (aX (by simp)) rfl
theorem lj (o:S.Ok){A:Nat->Bool} (u:S.Up A){t:Nat} (h:0<S.X A t):∃ s,s<t/\S.W A s t=S.X A t+(t - s)/\∃ j,j<S.n/\A j=true/\S.came j=s:=by
 induction t with
 | zero=>rw [X_zero] at h; exact (aN h (nL h)).elim
 | succ t ih=>
  have st:=X_step o u t
  by_cases q:0<S.X A t
  ·obtain ⟨s,h1,h2,h3⟩:=ih q
   refine ⟨s,by exact nT h1 (aD _ _),?_,h3⟩
   refine rP (W_step (nL h1)) (rP (Nat.succ_sub (nL h1)) ?_)
   exact ar1 h st h2
  ·have q0:S.X A t=0:=Nat.eq_zero_of_le_zero (aZ q)
   rw [q0,Nat.zero_add] at st
   have hw:0<S.W A t (t+1):=Nat.lt_of_lt_of_le h (st ▸ Nat.sub_le _ _)
   refine ⟨t,aC _,by refine rP st (rP (Nat.add_sub_cancel_left _ _) ?_); exact (sub1 hw).symm,?_⟩
   obtain ⟨j,hj,hp⟩:=sm_pos hw
   refine ⟨j,hj,?_⟩
   by_cases c:(A j && decide (t<=S.came j) && decide (S.came j<t+1))=true
   ·simp only [Bool.and_eq_true,decide_eq_true_eq] at c
    exact ⟨c.1.1,by lia⟩
   ·rw [aX c] at hp; exact (aN hp (nL hp)).elim
end Sys
end
section
namespace Sys
variable {S:Sys}
structure End (S:Sys) (e:Nat->Nat):Prop where
 at':∀ i,i<S.n->∀ t,0<S.rem t i↔t<e i
theorem W_le (A:Nat->Bool) (r t:Nat):S.W A r t<=sm S.work S.n:=sm_le fun j u_=>by split <;> (first | exact aC _ | exact aO _)
theorem ll (o:S.Ok){m:Nat} (hm:∀ j,j<S.n->S.came j<=m){t:Nat} (ht:m+sm S.work S.n<=t) (h1:0<S.n):S.X (fun u_=>true) t=0:=by
 by_cases q:0<S.X (fun u_=>true) t
 ·obtain ⟨s,h1,h2,j,hj,_,h3⟩:=lj o (fun u_ u_ u_ u_ u_ u_=>rfl) q
  have:=W_le (S:=S) (fun u_=>true) s t
  have:=hm j hj
  lia
 ·exact bg (aZ q)
theorem ex_max (f:Nat->Nat) (n:Nat):∃ m,∀ j,j<n->f j<=m:=⟨sm f n,fun j hj=>nG hj⟩
theorem lZ {f:Nat->Nat} (h:∀ t,f (t+1)<=f t){T:Nat} (hT:f T=0):∃ e,∀ t,0<f t↔t<e:=by
 induction T with
 | zero=>exact ⟨0,fun t=>by
   have:∀ t,f t=0:=fun t=>by induction t with
    | zero=>exact hT
    | succ t ih=>have:=h t; exact Nat.le_antisymm (nT this (aq ih)) (aO _)
   have:=this t
   lia⟩
 | succ T ih=>
  by_cases q:f T=0
  ·exact ih q
  ·refine ⟨T+1,fun t=>⟨fun p=>?_,fun p=>?_⟩⟩
   ·by_cases r:t<=T
    ·exact aB r
    ·exfalso
     have:∀ k,f (T+1+k)=0:=fun k=>by induction k with
      | zero=>exact hT
      | succ k ih=>have:=h (T+1+k); refine rP (show T+1+(k+1)=T+1+k+1 by rfl) ?_; exact Nat.le_antisymm (nT this (aq ih)) (aO _)
     have:=this (t - (T+1))
     rw [show T+1+(t - (T+1))=t by exact Nat.add_sub_cancel' (Nat.lt_of_not_le r)] at this
     exact aN p (aq this)
   ·have:∀ k,t+k=T->f T<=f t:=fun k=>by
     induction k generalizing t with
     | zero=>intro e; refine rP (show t=T by exact e) ?_; exact aC _
     | succ k ih=>intro e; exact Nat.le_trans (ih (t:=t+1) (by exact aB (nT (Nat.add_le_add_left (Nat.le_add_left _ _) _) (aq e))) (by exact ba _ _ _ |>.trans e)) (h t)
    have:=this (T - t) (by lia)
    exact nT (bn q) this
theorem nI (o:S.Ok):∃ e,S.End e:=by
 obtain ⟨m,hm⟩:=ex_max S.came S.n
 have:∀ i,i<S.n->∃ e,∀ t,0<S.rem t i↔t<e:=fun i hi=>by
  refine lZ (f:=fun t=>S.rem t i) (fun t=>gQ) (T:=m+sm S.work S.n+1) ?_
  have:=sm_zero.mp (ll o hm (t:=m+sm S.work S.n+1) (by exact aD _ _) (by exact nT (Nat.le_add_left _ _) hi)) i hi
  rw [aY (by simp; have:=hm i hi; exact aB (nT this (aD _ _)))] at this
  exact this
 exact ⟨fun i=>if h:i<S.n then Classical.choose (this i h) else 0,⟨fun i hi t=>by simp only [hi,dif_pos]; exact Classical.choose_spec (this i hi) t⟩⟩
variable {e:Nat->Nat}
theorem End.came (E:S.End e) (o:S.Ok){i:Nat} (hi:i<S.n):S.came i<e i:=(E.at' i hi _).mp (by refine rP (cH (aC _)) ?_; exact o.w i hi)
noncomputable def upTo (S:Sys) (i j:Nat):Bool:=!S.lt i j
theorem kk (o:S.Ok){i:Nat} (hi:i<S.n):S.Up (S.upTo i):=fun k j hk hj hik hl=>by
 unfold upTo at *
 cases q:S.lt i j with
 | false=>rfl
 | true=>rw [o.tr _ _ _ q hl] at hik; exact hik
theorem nJ (E:S.End e){i:Nat} (hi:i<S.n){t:Nat} (ht:t+1=e i):S.sv t i=true:=by
 have h1:=(E.at' i hi t).mpr (by exact aq ht)
 have h2:¬ 0<S.rem (t+1) i:=fun h=>by have:=(E.at' i hi (t+1)).mp h; exact aN this (aq ht.symm)
 rw [bH] at h2
 cases q:S.sv t i with
 | true=>rfl
 | false=>rw [q] at h2; simp at h2; exact (aN h1 (aq h2)).elim
theorem X_end (o:S.Ok) (E:S.End e){i:Nat} (hi:i<S.n):S.X (S.upTo i) (e i)=0:=by
 have hc:=E.came o hi
 obtain ⟨t,ht⟩:∃ t,t+1=e i:=⟨e i - 1,by exact sub1' hc⟩
 obtain ⟨p,q⟩:=sv_iff.mp (nJ E hi ht)
 refine sm_zero.mpr fun j hj=>?_
 by_cases c:(S.upTo i j && decide (S.came j<e i))=true
 ·refine rP (aY c) ?_
  simp only [Bool.and_eq_true,decide_eq_true_eq] at c
  by_cases ij:j=i
  ·subst ij
   have:=E.at' j hi (e j)
   lia
  ·have hl:S.lt j i=true:=by
    have:=c.1
    unfold upTo at this
    refine rP (o.tot j i hj hi ij) ?_; exact this
   have:=q j hj hl
   have h0:S.rem t j=0:=by
    by_cases z:S.rem t j=0
    ·exact z
    ·exact absurd ⟨by lia,by exact bn z⟩ this
   have:=gQ (S:=S) (t:=t) (k:=j)
   rw [ht] at this
   exact Nat.le_antisymm (nT this (aq h0)) (aO _)
 ·exact rP (aX c) rfl
theorem iB (E:S.End e) (o:S.Ok){i:Nat} (hi:i<S.n){h:Nat} (h1:S.came i<h) (h2:h<e i):0<S.X (S.upTo i) h:=by
 have:=nG (f:=fun j=>if S.upTo i j && decide (S.came j<h) then S.rem h j else 0) hi
 rw [aY (by unfold upTo; refine rP (o.irr _) ?_; simp [h1])] at this
 have:=(E.at' i hi h).mpr h2
 unfold X
 exact Nat.lt_of_lt_of_le this (by assumption)
theorem nK (E:S.End e){u i:Nat} (hi:i<S.n):S.sv u i=true↔S.came i<=u/\u<e i/\∀ j,j<S.n->S.lt j i=true->¬ (S.came j<=u/\u<e j):=by
 refine rP (propext (sv_iff)) ?_
 unfold pres
 refine rP (propext (E.at' i hi u)) ?_
 constructor
 ·rintro ⟨⟨a,b⟩,c⟩
  exact ⟨a,b,fun j hj hl p=>c j hj hl ⟨p.1,(E.at' j hj u).mpr p.2⟩⟩
 ·rintro ⟨a,b,c⟩
  exact ⟨⟨a,b⟩,fun j hj hl p=>c j hj hl ⟨p.1,(E.at' j hj u).mp p.2⟩⟩
theorem X_test (o:S.Ok){A:Nat->Bool} (u:S.Up A) (h:Nat):S.X A h=0↔∀ r,r<S.n->A r=true->S.came r<h->S.W A (S.came r) h<=h - S.came r:=by
 constructor
 ·intro z r hr ar hc
  have:=X_ge o u (r:=S.came r) (t:=h) (by exact nL hc)
  lia
 ·intro a
  by_cases q:0<S.X A h
  ·obtain ⟨s,h1,h2,j,hj,aj,hc⟩:=lj o u q
   have:=a j hj aj (by exact nT (aB (aq hc)) h1)
   rw [hc] at this
   lia
  ·exact bg (aZ q)
end Sys
end
section
theorem nM (k n:Nat):sm (fun j=>if j=k then 1 else 0) n<=1:=by
 by_cases h:k<n
 ·have:=nH (f:=fun u_=>0) (g:=fun j=>if j=k then 1 else 0) h (fun j u_ hj=>by simp [hj]) (by simp)
  have z:sm (fun u_=>0) n=0:=sm_zero.mpr fun u_ u_=>rfl
  exact nT (aq this) (aB (aq z))
 ·have:sm (fun j=>if j=k then 1 else 0) n=0:=sm_zero.mpr fun j hj=>by exact rP (aX (by exact Nat.ne_of_lt (nT hj (aZ h)))) rfl
  exact nD (aq this) rfl
namespace Sys
variable {S:Sys}{e:Nat->Nat}
theorem served (o:S.Ok){P:Nat->Bool}{s:Nat} (hP:∀ j,j<S.n->P j=true->s<=S.came j){t:Nat} (h:s<=t) :
  sm (fun j=>if P j then S.work j else 0) S.n<=sm (fun j=>if P j then S.rem t j else 0) S.n+(t - s):=by
 induction t with
 | zero=>
  have:s=0:=by exact bg h
  subst this
  exact aC _
 | succ t ih=>
  by_cases q:s=t+1
  ·subst q
   have:sm (fun j=>if P j then S.work j else 0) S.n=sm (fun j=>if P j then S.rem (t+1) j else 0) S.n:=cu fun j hj=>by
    cases p:P j with
    | false=>rfl
    | true=>simp only [if_true]; exact rP (cH (hP j hj p)) rfl
   exact nT (aq this) (aD _ _)
  ·have:=ih (by exact leNe h (by assumption))
   have st:sm (fun j=>if P j then S.rem t j else 0) S.n<=sm (fun j=>if P j then S.rem (t+1) j else 0) S.n+1:=by
    by_cases z:∃ k,k<S.n/\S.sv t k=true
    ·obtain ⟨k,hk,sk⟩:=z
     have a:=sm_le (n:=S.n) (f:=fun j=>if P j then S.rem t j else 0) (g:=fun j=>(if P j then S.rem (t+1) j else 0)+(if j=k then 1 else 0)) fun j hj=>by
      cases p:P j with
      | false=>simp
      | true=>
       simp only [if_true]
       by_cases e:j=k
       ·refine rP (aY e) ?_; exact rem_drop
       ·refine rP (aX e) (rP (bH _ _) ?_)
        have:S.sv t j=false:=by
         cases f:S.sv t j with
         | false=>rfl
         | true=>exact absurd (iA o hj hk f sk) e
        refine rP this ?_; simp
     rw [lg] at a
     have:=nM k S.n
     exact nT a (Nat.add_le_add_left this _)
    ·have:sm (fun j=>if P j then S.rem t j else 0) S.n=sm (fun j=>if P j then S.rem (t+1) j else 0) S.n:=cu fun j hj=>by
      refine rP (bH _ _) ?_
      have:S.sv t j=false:=by
       cases f:S.sv t j with
       | false=>rfl
       | true=>exact absurd ⟨j,hj,f⟩ z
      refine rP this ?_; simp
     exact nT (aq this) (aD _ _)
   refine rP (Nat.succ_sub (leNe h q)) ?_
   exact gro2 this st
theorem fifo {S':Sys}{e':Nat->Nat} (o:S.Ok) (o':S'.Ok) (E:S.End e) (E':S'.End e') (hn:S'.n=S.n) (hc:S'.came=S.came) (hw:S'.work=S.work)
  (hl:∀ j k,S.lt j k=decide (j<k)) (hs:∀ j k,j<=k->k<S.n->S.came j<=S.came k){i:Nat} (hi:i<S.n):∃ j,j<S.n/\e i+S.came j<=e' j+S.came i:=by
 have hci:=E.came o hi
 by_cases q:e i=S.came i+1
 ·have:=E'.came o' (i:=i) (by exact nT hi (aq hn.symm))
  rw [hc] at this
  exact ⟨i,hi,by exact Nat.add_le_add_right (nT (aq q) this) _⟩
 ·obtain ⟨t,ht⟩:∃ t,t+1=e i:=⟨e i - 1,by exact sub1' hci⟩
  obtain ⟨s,h1,h2,r,hr,ar,hcr⟩:=lj o (kk o hi) (iB E o hi (h:=t) (by lia) (by exact aq ht))
  have hx:=iB E o hi (h:=t) (by lia) (by exact aq ht)
  have sv:=served o' (P:=fun j=>S.upTo i j && decide (s<=S.came j) && decide (S.came j<t)) (s:=s) (fun j hj hp=>by refine rP hc ?_; simp only [Bool.and_eq_true,decide_eq_true_eq] at hp; exact hp.1.2) (t:=t) (by exact nL h1)
  rw [hw,hn] at sv
  have hW:S.W (S.upTo i) s t=sm (fun j=>if (S.upTo i j && decide (s<=S.came j) && decide (S.came j<t))=true then S.work j else 0) S.n:=rfl
  rw [<- hW] at sv
  have:0<sm (fun j=>if (S.upTo i j && decide (s<=S.came j) && decide (S.came j<t))=true then S'.rem t j else 0) S.n:=by omega
  obtain ⟨j,hj,hp⟩:=sm_pos this
  by_cases c:(S.upTo i j && decide (s<=S.came j) && decide (S.came j<t))=true
  ·rw [aY c] at hp
   simp only [Bool.and_eq_true,decide_eq_true_eq] at c
   have ej:=(E'.at' j (by exact nT hj (aq hn.symm)) t).mp hp
   have hji:j<=i:=by
    have:=c.1.1
    unfold upTo at this
    rw [hl] at this
    simp at this
    exact this
   have:=hs j i hji hi
   exact ⟨j,hj,by exact aQ (nT (aq ht.symm) ej) this⟩
  ·rw [aX c] at hp; exact (aN hp (nL hp)).elim
end Sys
end
end Mine.Internal
end
section
open PySem PySem.W PySem.F PyProof.Rows
namespace Mine.Internal
section
noncomputable def Wo.n (w:Wo):Nat:=w.f+w.r
noncomputable def bA (w:Wo):Wo:=⟨w.f - 1,w.r - (1 - w.f),w.ch⟩
theorem fh (w:Wo):(bA w).n=w.n - 1:=by
 unfold bA Wo.n
 dsimp only
 induction w.f using Nat.casesAuxOn with
 | zero=>exact rP (Nat.zero_sub _) (rP (Nat.zero_add _) (rP (Nat.zero_add _) rfl))
 | succ f=>exact rP (Nat.succ_sub_one _) (rP (bg (aB (aO f))) (rP (Nat.sub_zero _) (rP (ba _ _ _) (rP (Nat.add_sub_cancel _ _) rfl))))
noncomputable abbrev cZ:=List (Str×Ent)
noncomputable def bset (l:cZ) (k:Str) (d:Ent):cZ:=if l.any (fun p=>p.1 == k) then l.map (fun p=>if p.1 == k then (p.1,d) else p) else l++[(k,d)]
noncomputable def jA (b:cZ) (t:Nat) (w:Wo) (ws:List Wo):cZ:=bset b (sg w.ch) ((old b (sg w.ch)).add (newE w ws t))
theorem ma (l:cZ) (k:Str) (d:Ent):fy (cr l) k d.d=cr (bset l k d):=by
 unfold fy bset cr
 refine rP List.any_map ?_
 have e:((fun p:Str×D=>p.1 == k)∘fun p:Str×Ent=>(p.1,p.2.d))=fun p=>p.1 == k:=rfl
 refine rP e ?_
 split
 ·refine rP aG (rP aG ?_)
  refine aP fun p u_=>?_
  refine (?_:(if (p.1 == k)=true then _ else _)=((if (p.1 == k)=true then (p.1,d) else p).1,(if (p.1 == k)=true then (p.1,d) else p).2.d))
  split <;> rfl
 ·refine rP aI ?_; rfl
structure LSt where
 hand:Option Wo
 q:List Wo
 book:cZ
 left:List Int
noncomputable abbrev bw:=List (Nat×Wo)
noncomputable def arr (cs:bw) (t:Nat):List Wo:=(cs.filter fun p=>p.1 == t).map (·.2)
noncomputable def lsum (ws:List Wo):Int:=(ws.map fun w=>(w.n:Int)).sum
noncomputable def dn (cs:bw) (t:Nat) (s:LSt):LSt:=
 match s.hand,s.q++arr cs t with
 | none,[]=>⟨none,[],s.book,s.left++[0]⟩
 | none,w::ws=>⟨if (bA w).n=0 then none else some (bA w),ws,jA s.book t (bA w) ws,s.left++[((bA w).n:Int)+lsum ws]⟩
 | some w,ws=>⟨if (bA w).n=0 then none else some (bA w),ws,jA s.book t (bA w) ws,s.left++[((bA w).n:Int)+lsum ws]⟩
structure PSt where
 ds:List (Nat×Nat)
 book:cZ
 left:List Int
noncomputable def pw (p:Nat×Nat):Wo:=⟨p.1,0,p.2⟩
noncomputable def gR (cs:bw) (t:Nat):List (Nat×Nat):=(arr cs t).map fun w=>(w.n,w.ch)
noncomputable def psum (ds:List (Nat×Nat)):Int:=(ds.map fun p=>(p.1:Int)).sum
noncomputable def dp (cs:bw) (t:Nat) (s:PSt):PSt:=
 let ds:=s.ds++gR cs t
 match ds.getLast? with
 | none=>⟨[],s.book,s.left++[0]⟩
 | some p=>let rest:=ds.dropLast
  let ds':=if p.1 - 1=0 then rest else rest++[(p.1 - 1,p.2)]
  ⟨ds',jA s.book t ⟨p.1 - 1,0,p.2⟩ (rest.map pw),s.left++[psum ds']⟩
structure Card where
 a:Nat
 b:Nat
 k:Nat
 w:Wo
noncomputable def Card.ns (c:Card):List Int:=[c.a,c.b,c.k]
structure BSt where
 cs:List Card
 book:cZ
 left:List Int
noncomputable def jO (cs:bw) (t:Nat):List Card:=(cs.zipIdx.filter fun p=>p.1.1 == t).map fun p=>⟨p.1.2.n,p.1.1,p.2,p.1.2⟩
noncomputable def bmin (ks:List (Nat×Int)) (c:Card) (l:List Card):Card:=l.foldl (fun f x=>if cX x.ns f.ns ks<0 then x else f) c
noncomputable def csum (l:List Card):Int:=(l.map fun c=>(c.w.n:Int)).sum
noncomputable def cI (cs:bw) (ks:List (Nat×Int)) (t:Nat) (s:BSt):BSt:=
 match s.cs++jO cs t with
 | []=>⟨[],s.book,s.left++[0]⟩
 | c::l=>
  let f:=bmin ks c (c::l)
  let rest:=(c::l).eraseIdx ((c::l).findIdx fun x=>x.k == f.k)
  let ds:=if (bA f.w).n=0 then rest else rest++[⟨f.a,f.b,f.k,bA f.w⟩]
  ⟨ds,jA s.book t (bA f.w) (rest.map (·.w)),s.left++[csum ds]⟩
end
section
theorem jB (a b:List Nat):tx a++tx b=tx (a++b):=by
 refine (?_:(⟨(⟨a⟩:Array Nat)++⟨b⟩⟩:Str)=⟨⟨a++b⟩⟩)
 exact rP (List.append_toArray _ _) rfl
theorem mul_sp (f:Nat) (h:f<=3):Txt.mul ⟨⟨[32]⟩⟩ (f:Int)=tx (List.replicate f 32):=by
 have:f=0\/f=1\/f=2\/f=3:=by exact or3 h
 rcases this with rfl | rfl | rfl | rfl <;> decide +kernel
theorem nN:∀ l:List (List Nat),Txt.join ⟨⟨[]⟩⟩ (l.map tx)=tx l.flatten:=by
 intro l
 refine (?_:Builtin.Str.glued _ _=_)
 refine rP (StrLaws.glued_eq_join _ _) ?_
 induction l with
 | nil=>rfl
 | cons x l ih=>
  induction l using List.casesOn with
  | nil=>refine rP List.flatten_singleton ?_; rfl
  | cons y l=>
   refine (?_:tx x++tx []++Str.join (tx []) (List.map tx (y::l))=_)
   have ih:Str.join (tx []) (List.map tx (y::l))=_:=ih
   rw [ih,jB,jB,List.append_nil]; rfl
theorem Wo_tx (w:Wo):w.s=tx (List.replicate w.f 32++w.ch::List.replicate w.r 32):=rfl
theorem nO (l:List Nat):Txt.count (tx l) ⟨⟨[10]⟩⟩=nls l:=by
 refine rP (show (⟨⟨[10]⟩⟩:Str)=⟨#[10]⟩ from rfl) (rP (count_cnt _ _) ?_)
 refine (?_:cnt 10 l=nls l)
 induction l with
 | nil=>rfl
 | cons k l ih=>refine rP (cnt_cons _ _ _) (rP (bW _ _) (rP ih ?_)); rfl
noncomputable def dc (q:Bool) (w:Wo):List It:=List.replicate w.f ⟨!q,32⟩++⟨true,w.ch⟩::List.replicate w.r ⟨!q,32⟩
theorem jC (q:Bool) (w:Wo):tx (dL (dc q w))=w.s:=by
 refine rP (Wo_tx _) ?_; unfold dL dc
 exact rP aI (rP List.map_replicate (rP aA (rP List.map_replicate rfl)))
theorem fV (q:Bool) (w:Wo):(dc q w).length=w.f+w.r+1:=by unfold dc; simp; rfl
noncomputable def woN (t ch:Nat):Wo:=⟨t % 3,if t % 3=0 then 1 else t / 3 % 2,ch⟩
noncomputable def qd (t:Nat):Bool:=t / 6 % 2 == 1
noncomputable def enN (t:Nat):Nat:=[32,9,10,13].getD (t / 12 % 4) 0
noncomputable def spN (t ch:Nat):List Nat:=if qd t=true then 34::rawOf (dc true (woN t ch))++[34] else rawOf (dc false (woN t ch))
noncomputable def tkN (t:Nat):List Nat:=if qd t=true then [] else [enN t]
noncomputable def gC (t ch:Nat):D:=.tup [.str (woN t ch).s,.str (tx (spN t ch)),.str (tx [enN t]),.str (tx (tkN t))]
theorem woN_n (t ch:Nat):1<=(woN t ch).n/\(woN t ch).f<=2/\(woN t ch).r<=1/\(woN t ch).ch=ch:=by
 unfold woN Wo.n
 dsimp only
 refine ⟨?_,by exact Nat.le_of_lt_succ (Nat.mod_lt _ (by decide)),?_,rfl⟩
 ·split <;> lia
 ·split <;> (first | exact Nat.le_of_lt_succ (Nat.mod_lt _ (by decide)) | exact aC _)
theorem enN_w (t:Nat):isW (enN t)=true:=by
 unfold enN
 have:t / 12 % 4=0\/t / 12 % 4=1\/t / 12 % 4=2\/t / 12 % 4=3:=by lia
 rcases this with h | h | h | h <;> refine rP h ?_ <;> rfl
theorem item_end (j:Nat) (h:j<4):Txt.item ⟨⟨[32,9,10,13]⟩⟩ (j:Int)=tx [[32,9,10,13].getD j 0]:=by
 have:j=0\/j=1\/j=2\/j=3:=by exact or4 h
 rcases this with rfl | rfl | rfl | rfl <;> decide +kernel
theorem nmod (t k:Nat):(t:Int).fmod (k:Int)=((t % k:Nat):Int):=by
 refine rP (Int.fmod_eq_emod_of_nonneg _ (by exact aW _)) ?_; rfl
theorem ndiv (t k:Nat):(t:Int).fdiv (k:Int)=((t / k:Nat):Int):=by
 refine rP (Int.fdiv_eq_ediv_of_nonneg _ (by exact aW _)) ?_; rfl
theorem nP (w:Wo):dc false w=(List.replicate w.f 32++w.ch::List.replicate w.r 32).map fun k=>⟨true,k⟩:=by
 unfold dc
 refine rP aI (rP List.map_replicate (rP aA (rP List.map_replicate ?_))); rfl
theorem nQ (n:Nat):rawOf (List.replicate n ⟨false,32⟩)=List.replicate n 32:=by
 induction n with
 | zero=>rfl
 | succ n ih=>refine rP List.replicate_succ (rP List.replicate_succ ?_); show [32]++rawOf _=_; refine rP ih ?_; rfl
theorem raw_q (w:Wo):rawOf (dc true w)=List.replicate w.f 32++[92,w.ch]++List.replicate w.r 32:=by
 unfold dc
 refine (?_:List.flatMap _ _=_)
 refine rP List.flatMap_append (rP List.flatMap_cons ?_)
 refine (?_:rawOf _++([92,w.ch]++rawOf _)=_)
 exact rP Bool.not_true (rP (nQ _) (rP (nQ _) (rP (List.append_assoc _ _ _) rfl)))
end
section
set_option tactic.hygienic true
section
variable {c:Cst}{A:Around}{env:Env}{led:Led}{Q:D->Led->Prop}{a:Addr}{fd:FuncData}
theorem Bin.modN {t k:Nat}{j:Int} (hj:j=(k:Int)) (h0:k≠0) (h:Q (.int ((t % k:Nat):Int)) led):Bin c A .Mod (.int (t:Int)) (.int j) led Q:=by
 subst hj
 refine Bin.modI (by exact Int.ne_of_gt (iT (bn h0))) ?_
 refine rP (nmod _ _) ?_; exact h
theorem Bin.divN {t k:Nat}{j:Int} (hj:j=(k:Int)) (h0:k≠0) (h1:k<1000000) (h:Q (.int ((t / k:Nat):Int)) led):Bin c A .FloorDiv (.int (t:Int)) (.int j) led Q:=by
 subst hj
 refine Bin.divI (by exact Int.ne_of_gt (iT (bn h0))) (by omega) ?_
 refine rP (ndiv _ _) ?_; exact h
theorem Ev.sp {x:Str}{k:_}{m:List (Str×D)}{p1 p2 p3:Pos}{f:Nat} (hf:f<=3) (hk:env.scope.kind = .function) (hl:env.kindOf x=some .local) (hm:At led env.locals (.ns m)) (hx:m.lookup x=some (.int (f:Int))) (hd:(x == ("__debug__" : Str))=false)
  (h:Q (.str (tx (List.replicate f 32))) led):Ev c A env (.BinOp (.Constant (.str ⟨⟨[32]⟩⟩) k p1) .Mult (.Name x p2) p3) led Q:=by
 refine Ev.bi (Ev.cstr (Ev.lo hk hl hm hx hd (Bin.mulS (by decide) (by exact iN rfl) (by exact iL (nD hf rfl)) ?_)))
 refine rP (mul_sp f hf) ?_; exact h
theorem Bin.addX {a b:List Nat} (hz:a.length+b.length<=10000) (h:Q (.str (tx (a++b))) led):Bin c A .Add (.str (tx a)) (.str (tx b)) led Q:=by
 refine Bin.addS (by refine rP (eh _) (rP (eh _) (rP ai ?_)); exact nD hz rfl) ?_
 refine rP (jB _ _) ?_; exact h
theorem Row.str {x:List Nat}:Row c A (.str (tx x)) (x.map fun k=>.str (tx [k])):=fun u_ u_ h=>Itr.str h
theorem w17 (ok:c.Ok) (B:Bui c) (hA:Aok A 2) (F:FnAt c a t17.1 fd) (t ch:Nat) (h:Q (gC t ch) led):Cc c A (.ref a) [.int (t:Int),.str (sg ch)] led Q:=by
 refine F.call ok hA (F.bind2 (x:=⟨⟨[116,111,116,97,108]⟩⟩) (y:=⟨⟨[115,105,103,110]⟩⟩) fun v u=>fun u_ u_ u_ u_ u_ u_ u_ u_ u_ u_ u_ u_=>rfl) rfl rfl ?_
 intro C A' hA'
 have hsg:sg ch=tx [ch]:=rfl
 refine rP hsg ?_
 obtain ⟨hn,hf,hr,hc⟩:=woN_n t ch
 have ef:t % 3=(woN t ch).f:=rfl
 refine Sto.lo rfl rfl .h (Sto.lo rfl rfl .h ?_)
 refine Exs.co (Ex.asg rfl (Ev.bi (Ev.lo rfl rfl .h rfl rfl (Ev.cn 3 (Bin.modN (k:=3) rfl (by decide) (Asg.lo rfl rfl .h ?_))))))
 refine Exs.co (Ex.asg rfl (Ev.ifx (Tst.cmp rfl (Ev.lo rfl rfl .h rfl rfl (Ev.cn 0 (Cmp.eqI ⟨_,rfl,?_⟩))))))
 have er:∀ (P:D->Led->Prop) (l:Led),P (.int ((woN t ch).r:Int)) l->(if (((t % 3:Nat):Int) == 0)=true then Ev c A' (fE fd t17.1 a C []) (.Constant (.int (Int.ofNat 1)) 0 ⟨153,11,153,12⟩) l P else P (.int ((t / 3 % 2:Nat):Int)) l):=fun P l hP=>by
  have hw:(woN t ch).r=if t % 3=0 then 1 else t / 3 % 2:=rfl
  by_cases e0:t % 3=0
  ·refine ifT (by rw [e0]; rfl) ?_
   rw [hw,aY e0] at hP
   exact Ev.cn 1 hP
  ·refine ifF (by rw [beq_iff_eq]; exact Int.ne_of_gt (iT (bn e0))) ?_
   rw [hw,aX e0] at hP
   exact hP
 have er2:∀ (m:List (Str×D)),m.lookup ⟨⟨[116,111,116,97,108]⟩⟩=some (.int (t:Int))->∀ (P:D->Led->Prop),P (.int ((woN t ch).r:Int)) ((C,.ns m)::led)->(if (((t % 3:Nat):Int) == 0)=true then Ev c A' (fE fd t17.1 a C []) (.Constant (.int (Int.ofNat 1)) 0 ⟨153,11,153,12⟩) ((C,.ns m)::led) P else
   Ev c A' (fE fd t17.1 a C []) (.BinOp (.BinOp (.Name ⟨⟨[116,111,116,97,108]⟩⟩ ⟨153,32,153,37⟩) .FloorDiv (.Constant (.int (Int.ofNat 3)) 0 ⟨153,41,153,42⟩) ⟨153,32,153,42⟩) .Mod (.Constant (.int (Int.ofNat 2)) 0 ⟨153,45,153,46⟩) ⟨153,32,153,46⟩) ((C,.ns m)::led) P):=fun m hm P hP=>by
  have:=er P _ hP
  refine gu ?_ ?_
  ·intro _; rename_i e; rw [aY e] at this; exact this
  ·intro _; rename_i e; rw [aX e] at this
   exact Ev.bi (Ev.bi (Ev.lo rfl rfl .h hm rfl (Ev.cn 3 (Bin.divN (k:=3) rfl (by decide) (by decide) (Ev.cn 2 (Bin.modN (k:=2) rfl (by decide) this))))))
 refine er2 _ rfl _ ?_
 refine Asg.lo rfl rfl .h ?_
 have lr:∀ k:Nat,(List.replicate k 32).length=k:=fun k=>List.length_replicate
 refine Exs.co (Ex.asg rfl (Ev.bi (Ev.bi (Ev.sp (f:=(woN t ch).f) (by exact nD hf rfl) rfl rfl .h rfl rfl (Ev.lo rfl rfl .h rfl rfl (Bin.addX (by refine rP (lr _) ?_; simp; exact nD hf rfl) (Ev.sp (f:=(woN t ch).r) (by exact nD hr rfl) rfl rfl .h rfl rfl (Bin.addX (by simp; exact nD (aQ (aB hf) hr) rfl) ?_))))))))
 refine rP (List.append_assoc _ _ _) (rP List.singleton_append ?_)
 have ew:tx (List.replicate (woN t ch).f 32++ch::List.replicate (woN t ch).r 32)=(woN t ch).s:=rfl
 refine Asg.lo rfl rfl .h ?_
 refine Exs.co (Ex.asg rfl (Ev.sub (Ev.cstr (Ev.bi (Ev.bi (Ev.lo rfl rfl .h rfl rfl (Ev.cn 12 (Bin.divN (k:=12) rfl (by decide) (by decide) (Ev.cn 4 (Bin.modN (k:=4) rfl (by decide) (Sub.strI (fun u_ u_=>rfl) (by rw [ai]; decide) (by show -((4:Nat):Int)<=_; exact iN rfl) (by show _<((4:Nat):Int); lia) ?_)))))))))))
 refine rP (item_end _ (by exact Nat.mod_lt _ (by decide))) ?_
 have ee:[32,9,10,13].getD (t / 12 % 4) 0=enN t:=rfl
 refine rP ee ?_
 refine Asg.lo rfl rfl .h ?_
 refine Exs.co (Ex.ite (Tst.cmp rfl (Ev.bi (Ev.bi (Ev.lo rfl rfl .h rfl rfl (Ev.cn 6 (Bin.divN (k:=6) rfl (by decide) (by decide) (Ev.cn 2 (Bin.modN (k:=2) rfl (by decide) (Ev.cn 1 (Cmp.eqI ⟨_,rfl,?_⟩)))))))))))
 have eq:(((t / 6 % 2:Nat):Int) == 1)=qd t:=by
  unfold qd
  refine rP (propext (Bool.eq_iff_iff)) (rP (propext (beq_iff_eq)) (rP (propext (beq_iff_eq)) ?_)); exact Int.ofNat_inj
 refine rP eq ?_
 by_cases hq:qd t=true
 ·refine ifT hq ?_
  refine Exs.co (Ex.ret (Ev.tup (Evs.co rfl (Ev.lo rfl rfl .h rfl rfl (Evs.co rfl (Ev.bi (Ev.bi (Ev.bi (Ev.bi (Ev.bi (Ev.cstr (Ev.sp (f:=(woN t ch).f) (by exact nD hf rfl) rfl rfl .h rfl rfl (Bin.addX (a:=[34]) (by simp; exact nD (aQ (aC _) hf) rfl) (Ev.cstr (Bin.addX (b:=[92]) (by simp; exact nD hf rfl) (Ev.lo rfl rfl .h rfl rfl (Bin.addX (by simp; exact nD hf rfl) (Ev.sp (f:=(woN t ch).r) (by exact nD hr rfl) rfl rfl .h rfl rfl (Bin.addX (by simp; exact nD (aQ (aB (aQ hf (aC _))) hr) rfl) (Ev.cstr (Bin.addX (b:=[34]) (by simp; exact nD (aQ hf (aB (aB hr))) rfl) ?_)))))))))))))))))))))
  have es:([34]++List.replicate (woN t ch).f 32++[92]++[ch]++List.replicate (woN t ch).r 32++[34])=spN t ch:=by
   unfold spN
   refine rP (aY hq) (rP (raw_q _) (rP hc ?_))
   simp
  refine rP es ?_
  refine Evs.co rfl (Ev.lo rfl rfl .h rfl rfl (Evs.co rfl (Ev.cstr (Evs.ni ⟨by refine rP ai ?_; simp,_,.drop .rest,?_⟩))))
  unfold gC tkN at h
  rw [aY hq] at h
  exact h
 ·refine ifF hq ?_
  refine Exs.ni (Exs.co (Ex.ret (Ev.tup (Evs.co rfl (Ev.lo rfl rfl .h rfl rfl (Evs.co rfl (Ev.meth rfl rfl rfl rfl (Ev.cstr (Mth.str slot_str_join rfl (Evs.co rfl ?_))))))))))
  refine Ev.compO (xs:=List.replicate (woN t ch).f 32++ch::List.replicate (woN t ch).r 32) (g:=fun k=>.str (tx [k])) (p:=fun u_=>true) (f:=fun k=>.str (tx [92,k])) hA'.hh rfl rfl (by decide) (fun u_=>rfl) ?_
  refine Ev.lo rfl rfl .h rfl rfl ⟨.str,by refine rP ai ?_; simp; exact nD (aQ hf (aB hr)) rfl,?_,?_⟩
  ·intro acc out I rest x hx C2
   refine Asg.lo rfl rfl .h ⟨rfl,?_⟩
   exact Ev.bi (Ev.cstr (Ev.lo rfl rfl .h rfl rfl (Bin.addX (a:=[92]) (b:=[x]) (by show 2<=_; decide) ⟨rfl,.le .ns0 .rest⟩)))
  ·refine rP (List.filter_eq_self.mpr (fun u_ u_=>rfl)) ?_
   refine rP (show (fun k:Nat=>D.str (tx [92,k]))=D.str∘(fun k=>tx [92,k]) from rfl) (rQ aG ?_)
   refine Evs.ni ⟨.bui,Cl.join ?_ ?_⟩
   ·refine rP aG ?_
    have:List.map ((fun x:Str=>x.length)∘fun k=>tx [92,k]) (List.replicate (woN t ch).f 32++ch::List.replicate (woN t ch).r 32)=List.replicate ((woN t ch).f+1+(woN t ch).r) 2:=by
     refine rP aI (rP aA (rP List.map_replicate (rP List.map_replicate ?_)))
     refine (?_:List.replicate _ 2++2::List.replicate _ 2=_)
     refine rQ List.replicate_succ (rP List.replicate_append_replicate ?_)
     congr 1; exact swp
    refine rP this (rP List.sum_replicate_nat ?_)
    refine (?_:_+_*0<=_)
    lia
   have ej:List.map (fun k=>tx [92,k]) (List.replicate (woN t ch).f 32++ch::List.replicate (woN t ch).r 32)=List.map tx ((List.replicate (woN t ch).f 32++ch::List.replicate (woN t ch).r 32).map fun k=>[92,k]):=by refine rP aG ?_; rfl
   refine rP ej (rP (nN _) ?_)
   have es:((List.replicate (woN t ch).f 32++ch::List.replicate (woN t ch).r 32).map fun k=>[92,k]).flatten=spN t ch:=by
    unfold spN
    refine rP (aX hq) (rP (nP _) (rP hc ?_))
    unfold rawOf
    refine rP List.flatMap_def (rP aG ?_); rfl
   refine rP es ?_
   refine Evs.co rfl (Ev.lo rfl rfl .h rfl rfl (Evs.co rfl (Ev.lo rfl rfl .h rfl rfl (Evs.ni ⟨by refine rP ai ?_; simp,_,.drop .rest,?_⟩))))
   unfold gC tkN at h
   rw [aX hq] at h
   exact h
end
end
end Mine.Internal
end
section
open PySem PySem.W PyProof.Rows
namespace Mine.Internal
section
noncomputable def cg (days:List (Int×Int)) (ahead:List Nat) (h:Int) (r:Nat):Bool:=
 decide ((dy days r).1<h) && decide (((ahead.filter fun j=>decide ((dy days r).1<=(dy days j).1) && decide ((dy days j).1<h)).map fun j=>(dy days j).2).sum>h - (dy days r).1)
theorem gS {α:Type} (p:α->Bool):∀ l:List α,(!(l.filter p).isEmpty)=l.any p
 | []=>rfl
 | a::l=>by
  refine rP List.filter_cons (rP List.any_cons ?_)
  cases p a
  ·refine rP (aX (by decide)) (rP (Bool.false_or _) ?_); exact gS p l
  ·refine rP (aY rfl) (rP (Bool.true_or _) ?_); rfl
section
variable {c:Cst}{A:Around}{led:Led}{Q:D->Led->Prop}{a:Addr}{fd:FuncData}
theorem w25 (ok:c.Ok) (B:Bui c) (hA:Aok A 2) (F:FnAt c a t25.1 fd) (days:List (Int×Int)) (ahead:List Nat) (o:D) (ho:∀ A,Row c A o (ahead.map fun j:Nat=>.int (j:Int))) (one E:Nat) (hz:days.length<=100) (hz2:ahead.length<=100)
  (h1:one<days.length) (ha:∀ j∈ahead,j<days.length) (hb:∀ x<E,ahead.any (cg days ahead ((dy days one).1+1+x))=true) (he:ahead.any (cg days ahead ((dy days one).1+1+E))=false)
  (h:Q (.int ((dy days one).1+1+E)) led):Cc c A (.ref a) [jx days,o,.int one] led Q:=by
 refine F.call ok hA (F.bind3 (x:=⟨⟨[100,97,121,115]⟩⟩) (y:=⟨⟨[97,104,101,97,100]⟩⟩) (z:=⟨⟨[111,110,101]⟩⟩) fun v u w=>fun u_ u_ u_ u_ u_ u_ u_ u_ u_ u_ u_ u_=>rfl) rfl rfl ?_
 intro C a1 a2 a3 A' hA'
 refine Sto.cel rfl rfl rfl (.t (.t .h)) rfl (Sto.cel rfl rfl rfl (.t .h) rfl (Sto.lo rfl rfl (.t (.t (.t .h))) ?_))
 refine Exs.co (Ex.asg rfl (Ev.bi (Ev.day0 (fun u_ u_=>rfl) hz (Ev.ce rfl rfl rfl (.t (.t .h)) rfl ⟨rfl,Ev.lo rfl rfl (.t (.t (.t .h))) rfl rfl ⟨one,rfl,h1,Ev.cn 1 (Bin.addI ?_)⟩⟩))))
 refine Asg.cel rfl rfl rfl .h rfl ?_
 refine Exs.co (Ex.whileW (α:=Nat) (fun x=>(a3,.cell (some (.int ((dy days one).1+1+x))))::(a2,.cell (some o))::(a1,.cell (some (jx days)))::(C,.ns [(⟨⟨[111,110,101]⟩⟩,.int one)])::led) (fun x=>x<=E) (fun x=>E - x) 0 ?_ (by exact aO _) ?_)
 ·refine rP (show ((dy days one).1+1+((0:Nat):Int))=(dy days one).1+1 by exact Int.add_zero _) ?_; exact .rest
 intro x hx
 generalize hhr:(dy days one).1+1+(x:Int)=hr
 refine Tst.cmp rfl ?_
 refine Ev.compO (xs:=ahead) (g:=fun j:Nat=>.int (j:Int)) (p:=cg days ahead hr) (f:=fun j:Nat=>.int (j:Int)) hA'.hh rfl rfl (by decide) (fun u_=>rfl) ?_
 refine Ev.ce rfl rfl rfl (.t .h) rfl ⟨ho _,by exact szD hz2 rfl,?_,?_⟩
 ·intro acc out I rest r hr1 C2 a4
  refine Asg.cel rfl rfl rfl .h rfl ?_
  refine Tst.bop (Tall.consA (Tst.cmp rfl (Ev.day0 (fun u_ u_=>rfl) hz (Ev.ce rfl rfl rfl (.t (.t (.t (.t (.t (.t .h)))))) rfl ⟨rfl,Ev.ce rfl rfl rfl .h rfl ⟨r,rfl,ha r hr1,?_⟩⟩))))
  refine Ev.ce rfl rfl rfl (.t (.t (.t (.t .h)))) rfl (Cmp.ltI ⟨_,rfl,?_⟩)
  refine gu ?_ ?_
  ·intro e
   refine Tall.consA (Tst.cmp rfl (Ev.ca rfl rfl (Ev.bui ok rfl rfl rfl rfl B.sum'.1 B.sum'.2 rfl (Evs.co rfl ?_))))
   refine Ev.compO (xs:=ahead) (g:=fun j:Nat=>.int (j:Int)) (p:=fun j=>decide ((dy days r).1<=(dy days j).1) && decide ((dy days j).1<hr)) (f:=fun j=>.int (dy days j).2) hA'.hh rfl rfl (by decide) (fun u_=>rfl) ?_
   refine Ev.ce rfl rfl rfl (.t (.t (.t (.t (.t .h))))) rfl ⟨ho _,by exact szD hz2 rfl,?_,?_⟩
   ·intro acc2 out2 I2 rest2 j hj C3
    refine Asg.lo rfl rfl .h ?_
    refine Tst.cmp2 rfl (Ev.day0 (fun u_ u_=>rfl) hz (Ev.ce rfl rfl rfl (.t (.t (.t (.t (.t (.t (.t (.t (.t .h))))))))) rfl ⟨rfl,Ev.ce rfl rfl rfl (.t (.t (.t .h))) rfl ⟨r,rfl,ha r hr1,?_⟩⟩))
    refine Ev.day0 (fun u_ u_=>rfl) hz (Ev.ce rfl rfl rfl (.t (.t (.t (.t (.t (.t (.t (.t (.t .h))))))))) rfl ⟨rfl,Ev.lo rfl rfl .h rfl rfl ⟨j,rfl,ha j hj,Cmp.leI ⟨_,rfl,?_⟩⟩⟩)
    refine gu ?_ ?_
    ·intro e
     refine rP e ?_
     refine Ev.ce rfl rfl rfl (.t (.t (.t (.t (.t (.t (.t .h))))))) rfl (Cmp.ltI ⟨_,rfl,by exact rP (Bool.true_and _) rfl,?_⟩)
     refine gu ?_ ?_
     ·intro _; exact Ev.day1 (fun u_ u_=>rfl) hz (Ev.ce rfl rfl rfl (.t (.t (.t (.t (.t (.t (.t (.t (.t .h))))))))) rfl ⟨rfl,Ev.lo rfl rfl .h rfl rfl ⟨j,rfl,ha j hj,rfl,.le .ns0 .rest⟩⟩)
     ·intro _; exact .le .ns0 .rest
    ·intro e
     rw [Bool.not_eq_true] at e
     exact ⟨by exact rP e (rP (Bool.false_and _) rfl),.le .ns0 .rest⟩
   ·refine Evs.ni ⟨.bui,?_⟩
    refine rP (show (fun j:Nat=>D.int (dy days j).2)=D.int∘(fun j=>(dy days j).2) from rfl) (rQ aG ?_)
    refine Cl.sumL hA'.hh ?_
    refine Ev.bi (Ev.ce rfl rfl rfl (.t (.t (.t (.t .h)))) rfl (Ev.day0 (fun u_ u_=>rfl) hz (Ev.ce rfl rfl rfl (.t (.t (.t (.t (.t (.t .h)))))) rfl ⟨rfl,Ev.ce rfl rfl rfl .h rfl ⟨r,rfl,ha r hr1,?_⟩⟩)))
    refine Bin.subI (Cmp.gtI ⟨_,rfl,?_⟩)
    have eq:cg days ahead hr r=decide (((ahead.filter fun j=>decide ((dy days r).1<=(dy days j).1) && decide ((dy days j).1<hr)).map fun j=>(dy days j).2).sum>hr - (dy days r).1):=by
     unfold cg; exact rP e (rP (Bool.true_and _) rfl)
    refine rQ eq ?_
    cases eb:cg days ahead hr r
    ·exact ⟨rfl,.le .cell .rest⟩
    ·exact Tall.nilA ⟨rfl,Ev.ce rfl rfl rfl .h rfl ⟨rfl,.le .cell .rest⟩⟩
  ·intro e
   rw [Bool.not_eq_true] at e
   exact ⟨by unfold cg; exact rP e (rP (Bool.false_and _) rfl),.le .cell .rest⟩
 ·refine Ev.lst (Evs.ni ⟨by rw [ai]; decide,Cmp.ne0 (by have:=hA'.hu; unfold cLine; lia) ⟨_,rfl,?_⟩⟩)
  have em:(!(((ahead.filter (cg days ahead hr)).map fun j:Nat=>D.int (j:Int))).isEmpty)=ahead.any (cg days ahead hr):=by
   refine rP List.isEmpty_map ?_
   exact gS _ _
  refine rP em ?_
  by_cases e:x<E
  ·refine rQ hhr (rP (hb x e) ?_)
   refine Exs.co (Ex.augN (Ldn.cel rfl rfl rfl .h (Ev.cn 1 (Inp.addI (Sto.cel rfl rfl rfl .h rfl (Exs.ni ⟨x+1,by exact Nat.sub_succ_lt_self _ _ e,by exact e,?_⟩))))))
   refine rP (show (dy days one).1+1+((x+1:Nat):Int)=(dy days one).1+1+(x:Int)+1 by lia) ?_
   exact .rest
  ·have e2:x=E:=by exact Nat.le_antisymm hx (aZ e)
   subst e2
   refine rQ hhr (rP he ?_)
   refine Exs.co (Ex.ret (Ev.ce rfl rfl rfl .h rfl ⟨_,.drop (.drop (.drop (.drop .rest))),h⟩))
end
end
end Mine.Internal
end
section
open PySem PySem.W PySem.F PyProof.Rows
namespace Mine.Internal
section
structure Due where
 days:List (Int×Int)
 le:Nat->Nat->Bool
 lt:Nat->Nat->Bool
 E:Nat->Nat
namespace Due
variable (d:Due)
noncomputable def n:Nat:=d.days.length
noncomputable def ah (i:Nat):List Nat:=(List.range d.n).filter fun j=>d.le j i
noncomputable def ca (i:Nat):Int:=(dy d.days i).1
noncomputable def en (i:Nat):Int:=d.ca i+1+d.E i
noncomputable def free (i:Nat) (u:Int):Bool:=((List.range d.n).filter fun j=>d.lt j i && (decide (d.ca j<=u) && decide (u<d.en j))).isEmpty
noncomputable def hrs (i:Nat):List Int:=((List.range (d.en i - d.ca i).toNat).filter fun x:Nat=>d.free i (d.ca i+(x:Int))).map fun x:Nat=>d.ca i+(x:Int)
noncomputable def tms (i j:Nat):Nat:=((d.hrs i).filter fun u=>decide ((j:Int)≠(i:Int)) && (decide (d.ca j<=u) && decide (u<d.en j))).length
noncomputable def wstep (i:Nat) (m:List (Str×Int)) (j:Nat):List (Str×Int):=if 0<d.tms i j then ff m (sg (gch j)) (d.tms i j) else m
noncomputable def waits (i:Nat):List (Str×Int):=(List.range d.n).foldl (d.wstep i) []
noncomputable def ent (i:Nat):Ent:=⟨1,(d.hrs i).length,((d.waits i).map (·.2)).sum,d.en i,d.waits i⟩
noncomputable def bstep (b:List (Str×D)) (i:Nat):List (Str×D):=fy b (sg (gch i)) (d.ent i).d
noncomputable def due:List (Str×D):=(List.range d.n).foldl d.bstep []
structure Good:Prop where
 n4:d.n<=4
 n0:∀ i<d.n,0<=d.ca i/\d.ca i<=1000
 e0:∀ i<d.n,d.E i<=1000
 on:∀ i<d.n,∀ x<d.E i,(d.ah i).any (cg d.days (d.ah i) ((dy d.days i).1+1+x))=true
 off:∀ i<d.n,(d.ah i).any (cg d.days (d.ah i) ((dy d.days i).1+1+d.E i))=false
end Due
theorem dset_len {m:List (Str×D)}{k:Str}{d:D}:(fy m k d).length<=m.length+1:=by
 unfold fy
 split <;> simp
theorem nU {d:Due} (g:d.Good){i:Nat} (hi:i<d.n):(d.hrs i).length<=1001:=by
 unfold Due.hrs
 refine rP (am _) ?_
 refine Nat.le_trans (bi _ _) ?_
 refine rP aM ?_
 have:=g.e0 i hi
 unfold Due.en
 lia
section
variable {c:Cst}{A:Around}{led:Led}{Q:D->Led->Prop}{a a25:Addr}{fd fd25:FuncData}
noncomputable def L26 (d:Due) (rk:Nat->D) (d4 d5:Ch) (a1 a2 a3 a4 a5 a6 C:Addr) (m:List (Str×D)) (led:Led):Led:=
 (a6,.cell (some (.lst ((List.range d.n).map fun i=>.int (d.en i)))))::(a5,d5)::(a4,d4)::(a3,.cell (some (.rng 0 (d.n:Int))))::(a2,.cell (some (.lst ((List.range d.n).map rk))))::(a1,.cell (some (jx d.days)))::(C,.ns m)::led
inductive V26a (d:Due) (rk:Nat->D) (M a1 a2 a3 a4 a5 a6 C:Addr) (led:Led) (ds:List D) (l:Led):Prop
 | mk (rs:List Nat) (kvs:List (Str×D)) (m:List (Str×D)) (d4:Ch) (d5:Ch):ds=rs.map (fun j:Nat=>D.int (j:Int))->l=(M,.dic kvs)::L26 d rk d4 d5 a1 a2 a3 a4 a5 a6 C m led->Ch.isCell d4=true->Ch.isCell d5=true->m.lookup ⟨⟨[100,117,101]⟩⟩=some (.ref M)->rs.foldl d.bstep kvs=d.due->(∀ j∈rs,j<d.n)->kvs.length+rs.length<=d.n->V26a d rk M a1 a2 a3 a4 a5 a6 C led ds l
inductive V26b (d:Due) (rk:Nat->D) (kvs:List (Str×D)) (rs:List Nat) (i:Nat) (W I M a1 a2 a3 a4 a5 a6 C:Addr) (led:Led) (ds:List D) (l:Led):Prop
 | mk (js:List Nat) (ws:List (Str×Int)) (m:List (Str×D)) (d5:Ch):ds=js.map (fun j:Nat=>D.int (j:Int))->l=(W,.dic (iD ws))::(I,.it (rs.map fun j:Nat=>D.int (j:Int)))::(M,.dic kvs)::L26 d rk (.cell (some (.int (i:Int)))) d5 a1 a2 a3 a4 a5 a6 C m led->Ch.isCell d5=true->m.lookup ⟨⟨[100,117,101]⟩⟩=some (.ref M)->m.lookup ⟨⟨[104,111,117,114,115]⟩⟩=some (.lst ((d.hrs i).map .int))->m.lookup ⟨⟨[119,97,105,116,115]⟩⟩=some (.ref W)->js.foldl (d.wstep i) ws=d.waits i->(∀ j∈js,j<d.n)->ws.length+js.length<=d.n->V26b d rk kvs rs i W I M a1 a2 a3 a4 a5 a6 C led ds l
theorem w26 (ok:c.Ok) (B:Bui c) (hA:Aok A 4) (F:FnAt c a t26.1 fd) (G:FnAt c a25 t25.1 fd25) (g25:c.mg ⟨⟨[95,108,97,119,95,101,110,100]⟩⟩=some (.ref a25)) (d:Due) (g:d.Good) (rk:Nat->D)
  (hle:∀ (A:Around) (led:Led) (Q:D->Led->Prop) (j i:Nat),j<d.n->i<d.n->A.units<cLine->Q (.bool (d.le j i)) led->Cmp c A .LtE (rk j) (rk i) led Q)
  (hlt:∀ (A:Around) (led:Led) (Q:D->Led->Prop) (j i:Nat),j<d.n->i<d.n->A.units<cLine->Q (.bool (d.lt j i)) led->Cmp c A .Lt (rk j) (rk i) led Q)
  (h:Q (.dic d.due) led):Cc c A (.ref a) [jx d.days,.lst ((List.range d.n).map rk)] led Q:=by
 refine F.call ok hA (F.bind2 (x:=⟨⟨[100,97,121,115]⟩⟩) (y:=⟨⟨[114,97,110,107,115]⟩⟩) fun v u=>fun u_ u_ u_ u_ u_ u_ u_ u_ u_ u_ u_ u_=>rfl) rfl rfl ?_
 intro C a1 a2 a3 a4 a5 a6 A' hA'
 have hu:A'.units<cLine:=by have:=hA'.hu; unfold cLine; lia
 have hz:d.days.length<=100:=by have:=g.n4; unfold Due.n at this; exact nD this rfl
 have hzn:d.n<=100:=by have:=g.n4; exact nD this rfl
 refine Sto.cel rfl rfl rfl (.t (.t (.t (.t (.t .h))))) rfl (Sto.cel rfl rfl rfl (.t (.t (.t (.t .h)))) rfl ?_)
 refine Exs.co (Ex.asg rfl (Ev.ca rfl rfl (Ev.bui ok rfl rfl rfl rfl B.range'.1 B.range'.2 rfl (Evs.co rfl (Ev.ca rfl rfl (Ev.bui ok rfl rfl rfl rfl B.len'.1 B.len'.2 rfl (Evs.co rfl (Ev.ce rfl rfl rfl (.t (.t (.t (.t (.t .h))))) rfl (Evs.ni ⟨.bui,?_⟩)))))))))
 refine Cl.lenL (by exact szM hz rfl) (Evs.ni ⟨.typ,Cl.rng1 ?_⟩)
 refine rP (am _) ?_
 have hn:(d.days.length:Int)=(d.n:Int):=rfl
 refine rP hn ?_
 refine Asg.cel rfl rfl rfl (.t (.t (.t .h))) rfl ?_
 refine Exs.co (Ex.asg rfl ?_)
 refine Ev.compR (n:=d.n) (p:=fun u_=>true) (f:=fun i=>.int (d.en i)) hA'.hh rfl rfl (by decide) (fun u_=>rfl) ?_
 refine Ev.ce rfl rfl rfl (.t (.t (.t .h))) rfl ⟨rfl,by exact nD hzn rfl,?_,?_⟩
 ·intro acc out I rest i hi C2 b1
  refine Asg.cel rfl rfl rfl .h rfl ⟨rfl,?_⟩
  refine G.ev ok g25 rfl rfl rfl rfl rfl rfl (Evs.co rfl (Ev.ce rfl rfl rfl (.t (.t (.t (.t (.t (.t (.t (.t (.t .h))))))))) rfl (Evs.co rfl ?_)))
  refine Ev.compR (n:=d.n) (p:=fun j=>d.le j i) (f:=fun j=>.int (j:Int)) hA'.hh rfl rfl (by decide) (fun u_=>rfl) ?_
  refine Ev.ce rfl rfl rfl (.t (.t (.t (.t (.t (.t (.t .h))))))) rfl ⟨rfl,by exact nD hzn rfl,?_,?_⟩
  ·intro acc2 out2 I2 rest2 j hj C3
   refine Asg.lo rfl rfl .h (Tst.cmp rfl ?_)
   refine Ev.at (fun u_ u_=>rfl) hzn (Ev.ce rfl rfl rfl (.t (.t (.t (.t (.t (.t (.t (.t (.t (.t (.t .h))))))))))) rfl ⟨rfl,Ev.lo rfl rfl .h rfl rfl ⟨j,rfl,hj,?_⟩⟩)
   refine Ev.at (fun u_ u_=>rfl) hzn (Ev.ce rfl rfl rfl (.t (.t (.t (.t (.t (.t (.t (.t (.t (.t (.t .h))))))))))) rfl ⟨rfl,Ev.ce rfl rfl rfl (.t (.t (.t .h))) rfl ⟨i,rfl,hi,?_⟩⟩)
   refine hle _ _ _ _ _ hj hi hu ⟨_,rfl,rfl,?_⟩
   refine gu ?_ ?_
   ·intro _; exact Ev.lo rfl rfl .h rfl rfl ⟨rfl,.le .ns0 .rest⟩
   ·intro _; exact .le .ns0 .rest
  ·refine Evs.co rfl (Ev.ce rfl rfl rfl .h rfl (Evs.ni ?_))
   refine w25 ok B (hA'.le (by decide)) G d.days (d.ah i) _ (fun A=>Row.lst) i (d.E i) hz ?_ hi ?_ (g.on i hi) (g.off i hi) ⟨rfl,.le .cell .rest⟩
   ·refine Nat.le_trans (bi _ _) ?_
    refine rP aM ?_; exact hzn
   ·intro j hj
    exact List.mem_range.mp (List.mem_filter.mp hj).1
 refine rP (List.filter_eq_self.mpr (fun u_ u_=>rfl)) ?_
 refine Asg.cel rfl rfl rfl .h rfl ?_
 refine Exs.co (Ex.asg rfl (Ev.dicM fun M=>Asg.lo rfl rfl (.t (.t (.t (.t (.t (.t (.t .h))))))) ?_))
 refine Exs.co (Ex.forO (ds:=(List.range d.n).map fun j:Nat=>.int (j:Int)) hA'.hh (fun u_=>rfl) ?_)
 refine Ev.ce rfl rfl rfl (.t (.t (.t (.t .h)))) rfl ⟨.rng (by exact nD hzn rfl),V26a d rk M a1 a2 a3 a4 a5 a6 C led,
  ⟨List.range d.n,[],_,_,_,rfl,rfl,rfl,rfl,rfl,rfl,fun j hj=>List.mem_range.mp hj,by simp⟩,?_,?_⟩
 ·rintro d0 rest l I ⟨rs,kvs,m,d4,d5,e,rfl,h4,h5,hm,hf,hr,hk⟩
  induction rs using List.casesOn with
  | nil=>exact cN' e
  | cons i rs=>
  cases e
  have hi:i<d.n:=hr i (.head _)
  refine Asg.cel rfl rfl rfl (.t (.t (.t (.t .h)))) h4 ?_
  refine Exs.co (Ex.asgCompO (xs:=List.range (d.en i - d.ca i).toNat) (g:=fun x:Nat=>.int (d.ca i+(x:Int))) (p:=fun x=>d.free i (d.ca i+(x:Int))) (f:=fun x:Nat=>.int (d.ca i+(x:Int))) hA'.hh rfl rfl rfl rfl rfl (by decide) (fun u_=>rfl) ?_)
  refine Ev.ca rfl rfl (Ev.bui ok rfl rfl rfl rfl B.range'.1 B.range'.2 rfl (Evs.co rfl ?_))
  refine Ev.day0 (fun u_ u_=>rfl) hz (Ev.ce rfl rfl rfl (.t (.t (.t (.t (.t (.t (.t .h))))))) rfl ⟨rfl,Ev.ce rfl rfl rfl (.t (.t (.t (.t .h)))) rfl ⟨i,rfl,hi,Evs.co rfl ?_⟩⟩)
  refine Ev.at (rk:=fun i=>.int (d.en i)) (fun u_ u_=>rfl) hzn (Ev.ce rfl rfl rfl (.t (.t .h)) rfl ⟨rfl,Ev.ce rfl rfl rfl (.t (.t (.t (.t .h)))) rfl ⟨i,rfl,hi,Evs.ni ⟨.typ,Cl.rng2 ?_⟩⟩⟩)
  have b1:=g.n0 i hi
  have b2:=g.e0 i hi
  have b3:d.en i=d.ca i+1+d.E i:=rfl
  refine ⟨.rng2 (by show _<=d.ca i; exact Int.le_trans (by decide) b1.1) (by show d.ca i<_; exact bo b1.2 (by decide)) (by lia) (by lia),by refine rP aM (rP ai ?_); lia,?_,?_⟩
  ·intro acc out I2 rest2 x hx C2 b4
   refine Asg.cel rfl rfl rfl .h rfl (Tst.cmp rfl ?_)
   refine Ev.compR (n:=d.n) (p:=fun j=>d.lt j i && (decide (d.ca j<=d.ca i+(x:Int)) && decide (d.ca i+(x:Int)<d.en j))) (f:=fun j=>.int (j:Int)) hA'.hh rfl rfl (by decide) (fun u_=>rfl) ?_
   refine Ev.ce rfl rfl rfl (.t (.t (.t (.t (.t (.t (.t (.t (.t .h))))))))) rfl ⟨rfl,by exact nD hzn rfl,?_,?_⟩
   ·intro acc3 out3 I3 rest3 j hj C3
    refine Asg.lo rfl rfl .h (Tst.bop (Tall.consA (Tst.cmp rfl ?_)))
    refine Ev.at (fun u_ u_=>rfl) hzn (Ev.ce rfl rfl rfl (.t (.t (.t (.t (.t (.t (.t (.t (.t (.t (.t (.t (.t .h))))))))))))) rfl ⟨rfl,Ev.lo rfl rfl .h rfl rfl ⟨j,rfl,hj,?_⟩⟩)
    refine Ev.at (fun u_ u_=>rfl) hzn (Ev.ce rfl rfl rfl (.t (.t (.t (.t (.t (.t (.t (.t (.t (.t (.t (.t (.t .h))))))))))))) rfl ⟨rfl,Ev.ce rfl rfl rfl (.t (.t (.t (.t (.t (.t (.t (.t (.t (.t (.t .h))))))))))) rfl ⟨i,rfl,hi,?_⟩⟩)
    refine hlt _ _ _ _ _ hj hi hu ⟨_,rfl,?_⟩
    refine gu ?_ ?_
    ·intro e1
     refine Tall.consA (Tst.cmp2 rfl ?_)
     refine Ev.day0 (fun u_ u_=>rfl) hz (Ev.ce rfl rfl rfl (.t (.t (.t (.t (.t (.t (.t (.t (.t (.t (.t (.t (.t (.t .h)))))))))))))) rfl ⟨rfl,Ev.lo rfl rfl .h rfl rfl ⟨j,rfl,hj,?_⟩⟩)
     refine Ev.ce rfl rfl rfl (.t (.t (.t .h))) rfl (Cmp.leI ⟨_,rfl,?_⟩)
     refine gu ?_ ?_
     ·intro e2
      refine Ev.at (rk:=fun i=>.int (d.en i)) (fun u_ u_=>rfl) hzn (Ev.ce rfl rfl rfl (.t (.t (.t (.t (.t (.t (.t (.t (.t .h))))))))) rfl ⟨rfl,Ev.lo rfl rfl .h rfl rfl ⟨j,rfl,hj,Cmp.ltI ⟨_,rfl,?_⟩⟩⟩)
      have e3:decide (d.ca j<=d.ca i+(x:Int))=true:=e2
      refine gu ?_ ?_
      ·intro e4
       exact Tall.nilA ⟨by refine rP e1 (rP e3 (rP e4 ?_)); rfl,Ev.lo rfl rfl .h rfl rfl ⟨rfl,.le .ns0 .rest⟩⟩
      ·intro e4
       rw [Bool.not_eq_true] at e4
       exact ⟨by refine rP e1 (rP e3 (rP e4 ?_)); rfl,.le .ns0 .rest⟩
     ·intro e2
      have e3:¬ decide (d.ca j<=d.ca i+(x:Int))=true:=e2
      rw [Bool.not_eq_true] at e3
      exact ⟨by exact rP e3 (rP (Bool.false_and _) (rP (Bool.and_false _) rfl)),.le .ns0 .rest⟩
    ·intro e1
     rw [Bool.not_eq_true] at e1
     exact ⟨by exact rP e1 (rP (Bool.false_and _) rfl),.le .ns0 .rest⟩
   ·refine Ev.lst (Evs.ni ⟨by rw [ai]; decide,Cmp.eq0 hu ⟨_,rfl,?_⟩⟩)
    refine rP List.isEmpty_map ?_
    refine ⟨rfl,?_⟩
    refine gu ?_ ?_
    ·intro _; exact Ev.ce rfl rfl rfl .h rfl ⟨rfl,.le .cell .rest⟩
    ·intro _; exact .le .cell .rest
  refine ⟨_,_,.t (.t (.t (.t (.t (.t (.t (.t .h))))))),?_⟩
  rw [show (fun x:Nat=>D.int (d.ca i+(x:Int)))=D.int∘(fun x:Nat=>d.ca i+(x:Int)) from rfl,<- aG]
  have hh:((List.range (d.en i - d.ca i).toNat).filter fun x:Nat=>d.free i (d.ca i+(x:Int))).map (fun x:Nat=>d.ca i+(x:Int))=d.hrs i:=rfl
  refine rP hh ?_
  refine Exs.co (Ex.asg rfl (Ev.dicM fun W=>Asg.lo rfl rfl (.t (.t (.t (.t (.t (.t (.t (.t (.t .h))))))))) ?_))
  refine Exs.co (Ex.forO (ds:=(List.range d.n).map fun j:Nat=>.int (j:Int)) hA'.hh (fun u_=>rfl) ?_)
  refine Ev.ce rfl rfl rfl (.t (.t (.t (.t (.t (.t .h)))))) rfl ⟨.rng (by exact nD hzn rfl),V26b d rk kvs rs i W I M a1 a2 a3 a4 a5 a6 C led,
   ⟨List.range d.n,[],_,d5,rfl,rfl,h5,hm,rfl,rfl,rfl,fun j hj=>List.mem_range.mp hj,by simp⟩,?_,?_⟩
  ·rintro d0 rest l J ⟨js,ws,m,d5,e,rfl,h5,hm,hm2,hm3,hfw,hrw,hkw⟩
   induction js using List.casesOn with
   | nil=>exact cN' e
   | cons j js=>
   cases e
   have hj:j<d.n:=hrw j (.head _)
   refine Asg.cel rfl rfl rfl (.t (.t (.t (.t (.t .h))))) h5 ?_
   refine Exs.co (Ex.asg rfl (Ev.ca rfl rfl (Ev.bui ok rfl rfl rfl rfl B.len'.1 B.len'.2 rfl (Evs.co rfl ?_))))
   refine Ev.compL (xs:=d.hrs i) (g:=.int) (p:=fun u=>decide ((j:Int)≠(i:Int)) && (decide (d.ca j<=u) && decide (u<d.en j))) (f:=.int) hA'.hh rfl rfl (by decide) (fun u_=>rfl) ?_
   have hl:=nU g hi
   refine Ev.lo rfl rfl (.t (.t (.t (.t (.t (.t (.t (.t (.t (.t .h)))))))))) hm2 rfl ⟨rfl,by exact szD hl rfl,?_,?_⟩
   ·intro acc3 out3 I3 rest3 u hu3 C3
    refine Asg.lo rfl rfl .h (Tst.bop (Tall.consA (Tst.cmp rfl ?_)))
    refine Ev.ce rfl rfl rfl (.t (.t (.t (.t (.t (.t (.t (.t .h)))))))) rfl (Ev.ce rfl rfl rfl (.t (.t (.t (.t (.t (.t (.t (.t (.t .h))))))))) rfl (Cmp.neI ⟨_,rfl,?_⟩))
    have e0:((j:Int) != (i:Int))=decide ((j:Int)≠(i:Int)):=by
     rw [bne,Bool.eq_iff_iff]; simp
    refine rP e0 ?_
    refine gu ?_ ?_
    ·intro e1
     refine Tall.consA (Tst.cmp2 rfl ?_)
     refine Ev.day0 (fun u_ u_=>rfl) hz (Ev.ce rfl rfl rfl (.t (.t (.t (.t (.t (.t (.t (.t (.t (.t (.t (.t .h)))))))))))) rfl ⟨rfl,Ev.ce rfl rfl rfl (.t (.t (.t (.t (.t (.t (.t (.t .h)))))))) rfl ⟨j,rfl,hj,?_⟩⟩)
     refine Ev.lo rfl rfl .h rfl rfl (Cmp.leI ⟨_,rfl,?_⟩)
     refine gu ?_ ?_
     ·intro e2
      refine Ev.at (rk:=fun i=>.int (d.en i)) (fun u_ u_=>rfl) hzn (Ev.ce rfl rfl rfl (.t (.t (.t (.t (.t (.t (.t .h))))))) rfl ⟨rfl,Ev.ce rfl rfl rfl (.t (.t (.t (.t (.t (.t (.t (.t .h)))))))) rfl ⟨j,rfl,hj,Cmp.ltI ⟨_,rfl,?_⟩⟩⟩)
      have e3:decide (d.ca j<=u)=true:=e2
      refine gu ?_ ?_
      ·intro e4
       exact Tall.nilA ⟨by refine rP e1 (rP e3 (rP e4 ?_)); rfl,Ev.lo rfl rfl .h rfl rfl ⟨rfl,.le .ns0 .rest⟩⟩
      ·intro e4
       rw [Bool.not_eq_true] at e4
       exact ⟨by refine rP e1 (rP e3 (rP e4 ?_)); rfl,.le .ns0 .rest⟩
     ·intro e2
      have e3:¬ decide (d.ca j<=u)=true:=e2
      rw [Bool.not_eq_true] at e3
      exact ⟨by exact rP e3 (rP (Bool.false_and _) (rP (Bool.and_false _) rfl)),.le .ns0 .rest⟩
    ·intro e1
     rw [Bool.not_eq_true] at e1
     exact ⟨by exact rP e1 (rP (Bool.false_and _) rfl),.le .ns0 .rest⟩
   ·refine Evs.ni ⟨.bui,Cl.lenL ?_ ?_⟩
    ·refine rP (am _) (rP ai ?_)
     have:=bi (fun u=>decide ((j:Int)≠(i:Int)) && (decide (d.ca j<=u) && decide (u<d.en j))) (d.hrs i)
     exact nD (nT this hl) rfl
    refine rP (am _) ?_
    have ht:((d.hrs i).filter fun u=>decide ((j:Int)≠(i:Int)) && (decide (d.ca j<=u) && decide (u<d.en j))).length=d.tms i j:=rfl
    refine rP ht ?_
    refine Asg.lo rfl rfl (.t (.t (.t (.t (.t (.t (.t (.t (.t (.t .h)))))))))) ?_
    refine Exs.co (Ex.ite (Tst.cmp rfl (Ev.lo rfl rfl (.t (.t (.t (.t (.t (.t (.t (.t (.t (.t .h)))))))))) rfl rfl (Ev.cn 0 (Cmp.gtI ⟨_,rfl,?_⟩)))))
    have hw:(d.wstep i ws j).length<=ws.length+1:=by
     unfold Due.wstep
     split
     ·exact cx _ _ _
     ·exact aD _ _
    rw [aJ] at hkw
    refine gu ?_ ?_
    ·intro e1
     have e2:0<d.tms i j:=by have:=of_decide_eq_true e1; exact Int.ofNat_lt.1 this
     refine Exs.co (Ex.asgS rfl (Ev.lo rfl rfl (.t (.t (.t (.t (.t (.t (.t (.t (.t (.t .h)))))))))) rfl rfl (Ev.lo rfl rfl (.t (.t (.t (.t (.t (.t (.t (.t (.t (.t .h)))))))))) hm3 rfl ?_)))
     refine Ev.sign (fun u_ u_=>rfl) (Ev.ce rfl rfl rfl (.t (.t (.t (.t (.t .h))))) rfl ⟨j,rfl,by have:=g.n4; exact nT hj this,Sit.dic (.t .h) (by refine rP (cY _) (rP ai ?_); exact nD (nT (nR hkw) hzn) rfl) ?_⟩)
     refine rP (fQ _ _ _) ?_
     refine Exs.ni (Exs.ni ⟨_,.h,js,d.wstep i ws j,(⟨⟨[116,105,109,101,115]⟩⟩,.int (d.tms i j:Int))::m,.cell (some (.int (j:Int))),rfl,by unfold Due.wstep; exact rP (aY e2) rfl,rfl,hm,hm2,hm3,hfw,fun k hk=>hrw k (.tail _ hk),by lia⟩)
    ·intro e1
     have e2:¬ 0<d.tms i j:=fun x=>e1 (be (by exact iT x))
     refine Exs.ni (Exs.ni ⟨_,.h,js,d.wstep i ws j,(⟨⟨[116,105,109,101,115]⟩⟩,.int (d.tms i j:Int))::m,.cell (some (.int (j:Int))),rfl,by unfold Due.wstep; exact rP (aX e2) rfl,rfl,hm,hm2,hm3,hfw,fun k hk=>hrw k (.tail _ hk),by omega⟩)
  rintro l ⟨js,ws,m,d5,e,rfl,h5,hm,hm2,hm3,hfw,hrw,hkw⟩
  induction js using List.casesOn with
  | cons j js=>exact nC e
  | nil=>
  replace hfw:ws=d.waits i:=hfw
  subst hfw
  refine Exs.co (Ex.asgS rfl (Ev.tup (Evs.co rfl (Ev.cn 1 (Evs.co rfl (Ev.ca rfl rfl (Ev.bui ok rfl rfl rfl rfl B.len'.1 B.len'.2 rfl (Evs.co rfl (Ev.lo rfl rfl (.t (.t (.t (.t (.t (.t (.t (.t (.t .h))))))))) hm2 rfl (Evs.ni ⟨.bui,Cl.lenL ?_ ?_⟩))))))))))
  ·have:=nU g hi
   refine rP (am _) (rP ai ?_); exact nD this rfl
  refine rP (am _) ?_
  refine Evs.co rfl (Ev.ca rfl rfl (Ev.bui ok rfl rfl rfl rfl B.sum'.1 B.sum'.2 rfl (Evs.co rfl (Ev.meth rfl rfl rfl rfl (Ev.frz rfl rfl hm3 rfl .h (.t (.t (.t (.t (.t (.t (.t (.t .h)))))))) frzD ok (Mth.dic slot_dict_values rfl (Evs.ni ⟨.bui,Cl.values (Evs.ni ⟨.bui,Cl.sumV (ns:=(d.waits i).map (·.2)) hA'.hh (by unfold iD; refine rP aG (rP aG ?_); rfl) ?_⟩)⟩)))))))
  refine Evs.co rfl (Ev.at (rk:=fun i=>.int (d.en i)) (fun u_ u_=>rfl) hzn (Ev.ce rfl rfl rfl (.t (.t .h)) rfl ⟨rfl,Ev.ce rfl rfl rfl (.t (.t (.t (.t .h)))) rfl ⟨i,rfl,hi,?_⟩⟩))
  refine Evs.co rfl (Ev.lo rfl rfl (.t (.t (.t (.t (.t (.t (.t (.t .h)))))))) rfl rfl (Evs.ni ⟨by refine rP ai ?_; simp,?_⟩))
  refine Ev.lo rfl rfl (.t (.t (.t (.t (.t (.t (.t (.t .h)))))))) hm rfl (Ev.sign (fun u_ u_=>rfl) (Ev.ce rfl rfl rfl (.t (.t (.t (.t .h)))) rfl ⟨i,rfl,by have:=g.n4; exact nT hi this,Sit.dic (.t .h) (by refine rP ai ?_; exact nD (nT (nR hk) hzn) rfl) ?_⟩))
  refine Exs.ni ⟨_,.h,rs,d.bstep kvs i,_,_,_,rfl,rfl,rfl,h5,hm,hf,fun k hk=>hr k (.tail _ hk),?_⟩
  have:(d.bstep kvs i).length<=kvs.length+1:=dset_len
  rw [aJ] at hk
  lia
 ·rintro l ⟨rs,kvs,m,d4,d5,e,rfl,h4,h5,hm,hf,hr,hk⟩
  induction rs using List.casesOn with
  | cons i rs=>exact nC e
  | nil=>
  replace hf:kvs=d.due:=hf
  subst hf
  refine Exs.co (Ex.ret (Ev.frz rfl rfl hm rfl .h (.t (.t (.t (.t (.t (.t .h)))))) frzD ok ⟨_,.drop (.drop (.drop (.drop (.drop (.drop (.drop .rest)))))),h⟩))
end
end
section
set_option tactic.hygienic true
section
variable {c:Cst}{A:Around}{env:Env}{led:Led}
theorem Ev.compM {elt tgt iter:Expr}{ifs:List Expr}{scope:Scope}{pos:Pos}{cl:List (Str×Addr)}{α:Type}{g:α->D}{p:α->Bool}{f:α->D}{xs:List α}{Q:D->Led->Prop} (hh:A.handled=none)
  (hclos:closureFor scope env=pure cl) (hkind:scope.kind = .function) (hnames:∀ x∈scope.names,x.2 = .local->scope.names.lookup x.1=some .local)
  (hs:∀ x,foldedSetIterable iter env x=pure x)
  (h:Ev c A env iter led fun d led₁=>∃ l,d = .ref l/\At led₁ l (.lst (xs.map g))/\xs.length<=sizeLine/\
   (∀ acc out I X x,x∈xs->dm c A env scope cl elt tgt ifs ((acc,.lst out)::(I,X)::led₁) (g x) (p x) (f x))/\
   Q (.lst ((xs.filter p).map f)) led₁):Ev c A env (.ListComp elt [⟨tgt,iter,ifs,0⟩] scope pos) led Q:=by
 refine Ev.comp (g:=g) (xs:=xs) (p:=p) (f:=f) hclos hkind hnames hs (h.mono ?_)
 rintro _ led₁ ⟨l,rfl,hm,hz,ht,hq⟩
 refine Itr.lstL hm fun I=>⟨I,mG l (xs.map g).length,_,led₁,rfl,Cur.itL hh tgt I l (xs.map g),Slf.itL I l _,?_,hz,?_,fun acc out rest x hx=>ht acc out I _ x hx,hq⟩
 ·refine (?_:(I,Ch.itL l 0)::led₁=(I,Ch.itL l ((xs.map g).length - (xs.map g).length))::led₁)
  exact rP (Nat.sub_self _) rfl
 ·intro pre q e fr
  exact ⟨(At.t hm).app fr,⟨pre.map g,by exact rQ aI (rQ e rfl)⟩⟩
theorem Ev.last {v:Expr}{k:_}{p1 p2 p3:Pos}{Q:D->Led->Prop}
  (h:Ev c A env v led fun a l=>∃ ds d,Oth l a ds/\ds.getLast? = some d/\ds.length<=1000/\Q d l) :
  Ev c A env (.Subscript v (.UnaryOp .USub (.Constant (.int (Int.ofNat 1)) k p1) p2) p3) led Q:=by
 refine Ev.sub (h.mono ?_)
 rintro a l ⟨ds,d,ho,hd,hz,q⟩
 have hne:ds≠[]:=fun e=>by subst e; exact nS hd
 have hlen:0<ds.length:=List.length_pos_iff.mpr hne
 have hix:ds[jN (-1) ds.length]? = some d:=by
  unfold jN
  exact rP (aX (by exact Int.not_le.2 (by decide))) (rP (show (-1+(ds.length:Int)).toNat=ds.length - 1 by rw [Int.add_comm]; exact Int.toNat_sub ds.length 1) (rQ hd (rP List.getLast?_eq_getElem? rfl)))
 refine Ev.una (Ev.cn 1 (Una.negI ?_))
 rcases ho with rfl | ⟨b,rfl,hm⟩
 ·exact Sub.lst (fun u_ u_=>rfl) (by exact szD hz rfl) (by lia) (by exact Int.lt_of_lt_of_le (by decide) (aW _)) hix q
 ·exact Sub.lstL (fun u_ u_=>rfl) hm (by exact szD hz rfl) (by omega) (by exact Int.lt_of_lt_of_le (by decide) (aW _)) hix q
noncomputable def kl (cs:bw):D:=.lst (cs.map fun p=>.tup [.int (p.1:Int),.str p.2.s])
noncomputable def lastT (cs:bw):Nat:=((cs.getLast?).map (·.1)).getD 0
noncomputable def tst (cs:bw) (t:Nat) (left:List Int):Bool:=decide (t<=lastT cs) || decide (0<(left.getLast?).getD 0)
noncomputable abbrev eV:Str:=⟨⟨[104,111,117,114]⟩⟩
noncomputable abbrev mz:Str:=⟨⟨[99,111,109,101,114,115]⟩⟩
noncomputable abbrev iC:Str:=⟨⟨[108,101,102,116]⟩⟩
theorem Tst.run {p1 p2 p3 p4 p5 p6 p7 p8 p9 pa pb pc pd pe pf:Pos}{k1 k2 k3 k4:_}{m:List (Str×D)}{cs:bw}{t:Nat}{left:List Int}{Lf:Addr}{Q:Bool->Led->Prop}
  (hk:env.scope.kind = .function) (hl1:env.kindOf eV=some .local) (hl2:env.kindOf mz=some .local) (hl3:env.kindOf iC=some .local) (hm:At led env.locals (.ns m))
  (h1:m.lookup eV=some (.int (t:Int))) (h2:m.lookup mz=some (kl cs)) (h3:m.lookup iC=some (.ref Lf)) (hL:At led Lf (.lst (left.map .int)))
  (hc:cs≠[]) (hz:cs.length<=100) (hz2:left.length<=1000) (h0:left=[]->t<=lastT cs) (h:Q (tst cs t left) led) :
  Tst c A env (.BoolOp .Or [.Compare (.Name eV p1) [.LtE] [.Subscript (.Subscript (.Name mz p2) (.UnaryOp .USub (.Constant (.int (Int.ofNat 1)) k1 p3) p4) p5) (.Constant (.int (Int.ofNat 0)) k2 p6) p7] p8,
   .Compare (.Subscript (.Name iC p9) (.UnaryOp .USub (.Constant (.int (Int.ofNat 1)) k3 pa) pb) pc) [.Gt] [.Constant (.int (Int.ofNat 0)) k4 pd] pe] pf) led Q:=by
 obtain ⟨x,hx⟩:∃ x,cs.getLast? = some x:=by
  cases e:cs.getLast? with
  | none=>exact absurd (List.getLast?_eq_none_iff.mp e) hc
  | some x=>exact ⟨x,rfl⟩
 have hT:lastT cs=x.1:=by unfold lastT; refine rP hx ?_; rfl
 refine Tst.bop (Tall.consO (Tst.cmp rfl (Ev.lo hk hl1 hm h1 rfl (Ev.sub (Ev.last (Ev.lo hk hl2 hm h2 rfl ⟨_,.tup [.int (x.1:Int),.str x.2.s],.inl rfl,by refine rP List.getLast?_map (rP hx ?_); rfl,by refine rP (am _) ?_; exact nD hz rfl,?_⟩))))))
 refine Ev.cn 0 (Sub.tup (d:=.int (x.1:Int)) (fun u_ u_=>rfl) (by refine rP ai ?_; show 2<=_; decide) (by show -((2:Nat):Int)<=_; decide) (by show _<((2:Nat):Int); decide) rfl (Cmp.leI ⟨_,rfl,?_⟩))
 have e1:decide ((t:Int)<=(x.1:Int))=decide (t<=lastT cs):=by refine rP hT (rP (propext (Bool.eq_iff_iff)) (rP (propext (decide_eq_true_iff)) (rP (propext (decide_eq_true_iff)) ?_))); exact Int.ofNat_le
 refine rP e1 ?_
 unfold tst at h
 by_cases e2:t<=lastT cs
 ·rw [be e2] at h ⊢
  refine ifT rfl ?_
  rwa [Bool.true_or] at h
 ·rw [bf e2] at h ⊢
  refine ifF (by decide) ?_
  rw [Bool.false_or] at h
  obtain ⟨y,hy⟩:∃ y,left.getLast? = some y:=by
   cases e:left.getLast? with
   | none=>exact absurd (h0 (List.getLast?_eq_none_iff.mp e)) e2
   | some y=>exact ⟨y,rfl⟩
  refine Tall.consO (Tst.cmp rfl (Ev.last (Ev.lo hk hl3 hm h3 rfl ⟨_,.int y,.inr ⟨Lf,rfl,hL⟩,by refine rP List.getLast?_map (rP hy ?_); rfl,by refine rP (am _) ?_; exact hz2,Ev.cn 0 (Cmp.gtI ⟨_,rfl,?_⟩)⟩)))
  rw [hy] at h
  have e3:decide (y>0)=decide (0<(some y).getD 0):=rfl
  refine rP e3 ?_
  refine gu ?_ ?_
  ·intro _; rename_i e4; rw [e4] at h; exact h
  ·intro _; rename_i e4; rw [Bool.not_eq_true] at e4; rw [e4] at h; exact Tall.nilO h
end
end
section
structure Def (c:Cst) (t:Txt) (x:Str) where
 a:Addr
 fd:FuncData
 F:FnAt c a t fd
 g:c.mg x=some (.ref a)
noncomputable abbrev sNote:Str:=⟨⟨[95,108,97,119,95,110,111,116,101]⟩⟩
noncomputable abbrev nV:Str:=⟨⟨[95,108,97,119,95,115,116,114,101,97,109]⟩⟩
noncomputable abbrev sPush:Str:=⟨⟨[112,117,115,104,95,116,111,107,101,110]⟩⟩
noncomputable abbrev sGet:Str:=⟨⟨[103,101,116,95,116,111,107,101,110]⟩⟩
structure Nt (c:Cst) where
 f7:Def c t07.1 gP
 f12:Def c t12.1 ⟨⟨[97,100,100,95,102,117,110,99,95,115,116,97,116,115]⟩⟩
 f13:Def c t13.1 ⟨⟨[97,100,100,95,99,97,108,108,101,114,115]⟩⟩
 f21:Def c t21.1 sNote
structure Lx (c:Cst) where
 Kl:Addr
 fI:Addr
 fdI:FuncData
 K:LexAt c Kl fI fdI
 fR:Addr
 fdR:FuncData
 X:LexF c Kl fR fdR
 fP:Addr
 fdP:FuncData
 FP:FnAt c fP m9push.1 fdP
 MP:nE c Kl sPush fP
 fG:Addr
 fdG:FuncData
 FG:FnAt c fG m9get.1 fdG
 MG:nE c Kl sGet fG
 f16:Def c t16.1 nV
 cc:Addr
 T:Addr
 N:NestAt c f16.fd cc T
noncomputable def Lx.tab {c:Cst} (L:Lx c):Ch:=.tab ⟨146,4,147,50⟩ (L.f16.fd.qualname++".<locals>."++iz)
noncomputable def bN (cs:bw):Nat->LSt
 | 0=>⟨none,[],[],[]⟩
 | t+1=>dn cs t (bN cs t)
structure LSt.Good (s:LSt):Prop where
 h:∀ w,s.hand=some w->w.Ok
 q:∀ w∈s.q,w.Ok
 ql:s.q.length<=50
 b:s.book.length<=100
 by':∀ k,(old s.book k).by'.length<=500
 l:s.left.length<=900
structure km (cs:bw):Prop where
 n0:cs≠[]
 n4:cs.length<=10
 ok:∀ p∈cs,p.2.Ok
noncomputable def me:Option Wo->D
 | none=>.str ⟨⟨[]⟩⟩
 | some w=>.str w.s
noncomputable def strD (ws:List Wo):List D:=ws.map fun w=>.str w.s
theorem Wo.Ok.strip {w:Wo} (h:w.Ok):(bA w).Ok:=⟨h.1,by have:=h.2.1; unfold bA; dsimp only; exact nT (Nat.sub_le _ _) this,by have:=h.2.2; unfold bA; dsimp only; exact nT (Nat.sub_le _ _) this⟩
theorem Wo.len (w:Wo):w.s.length=w.n+1:=by unfold Wo.s Wo.n; refine rP (bI _ _ _) ?_; exact ba _ _ _
theorem Wo.ne (w:Wo):(w.s == (⟨⟨[]⟩⟩:Str))=false:=by
 refine rP (propext (beq_eq_false_iff_ne)) ?_
 intro e
 have:=w.len
 rw [e] at this
 exact zS this
theorem arr_ok {cs:bw} (h:km cs) (t:Nat):∀ w∈arr cs t,w.Ok:=by
 intro w hw
 unfold arr at hw
 obtain ⟨p,hp,rfl⟩:=List.mem_map.mp hw
 exact h.ok p (List.mem_filter.mp hp).1
theorem nW {cs:bw} (h:km cs) (t:Nat):(arr cs t).length<=10:=by
 unfold arr
 refine rP (am _) ?_
 exact Nat.le_trans (bi _ _) h.n4
section
variable {c:Cst}{A:Around}{led:Led}{Q:D->Led->Prop}
theorem nX (ok:c.Ok) (B:Bui c) (hA:Aok A 2) (N:Nt c) (w:Wo) (hw:w.Ok) (h:Q (.str (bA w).s) led):Cc c A (.ref N.f7.a) [.str w.s,.int 1] led Q:=
 w07 (n:=1) ok B hA N.f7.F w.f w.r w.ch hw.1 (by have:=hw.2.1; exact nD this rfl) (by have:=hw.2.2; exact nD this rfl) (by decide) h
theorem wnote (ok:c.Ok) (B:Bui c) (hA:Aok A 4) (N:Nt c) (w:Wo) (hw:w.Ok) (ws:List Wo) (hws:∀ w∈ws,w.Ok) (hz:ws.length<=100) (t:Nat){o:D} (x:Oth led o (strD ws)){Bk:Addr} (b:cZ){led':Led}
  (u:Up led Bk (.dic (cr b)) (.dic (cr (jA b t w ws))) led') (hbz:b.length<=100) (hcz:∀ k,(old b k).by'.length<=500) (h:Q .none led'):Cc c A (.ref N.f21.a) [.ref Bk,.int (t:Int),.str w.s,o] led Q:=
 w21 ok B hA N.f21.F N.f7.F N.f7.g N.f12.F N.f12.g N.f13.F N.f13.g w hw ws hws hz t x b (by refine rP (ma _ _ _) ?_; exact u) hbz (hcz _) h
end
end
end Mine.Internal
end
section
open PySem PySem.W PyProof.Rows
namespace Mine.Internal
section
noncomputable def bK:Option (List Int)->List Int
 | none=>[0,0,0,0]
 | some ns=>(List.range ns.length).map fun k=>(ns.take (k+1)).sum - k - 1
section
variable {c:Cst}{A:Around}{led:Led}{Q:D->Led->Prop}{a:Addr}{fd:FuncData}
theorem w20 (ok:c.Ok) (B:Bui c) (hA:Aok A 2) (F:FnAt c a t20.1 fd) (ns:List Int) (hz:ns.length<=100) (h:Q (.lst ((bK (some ns)).map .int)) led):Cc c A (.ref a) [.lst (ns.map .int)] led Q:=by
 refine F.call ok hA (F.bind1 (x:=⟨⟨[115,105,122,101,115]⟩⟩) fun v=>fun u_ u_ u_ u_ u_ u_ u_ u_ u_ u_ u_ u_=>rfl) rfl rfl ?_
 intro C a1 A' hA'
 refine Sto.cel rfl rfl rfl .h rfl ?_
 refine Exs.co (Ex.ite (Tst.cmp rfl (Ev.ce rfl rfl rfl .h rfl (Ev.cnone (Cmp.isN rfl ⟨_,rfl,?_⟩)))))
 refine Exs.ni ?_
 refine Exs.co (Ex.ret ?_)
 refine Ev.comp (g:=fun j:Nat=>.int ((0:Int)+(j:Int))) (xs:=List.range ((ns.length:Int) - 0).toNat) (p:=fun u_=>true) (f:=fun k=>.int ((ns.take (k+1)).sum - k - 1)) rfl rfl (by decide) (fun u_=>rfl) ?_
 refine Ev.ca rfl rfl (Ev.bui ok rfl rfl rfl rfl B.range'.1 B.range'.2 rfl ?_)
 refine Evs.co rfl (Ev.ca rfl rfl (Ev.bui ok rfl rfl rfl rfl B.len'.1 B.len'.2 rfl ?_))
 refine Evs.co rfl (Ev.ce rfl rfl rfl .h rfl (Evs.ni ⟨.bui,?_⟩))
 refine Cl.lenL (by refine rP (am _) ?_; refine rP ai ?_; exact nD hz rfl) ?_
 refine Evs.ni ⟨.typ,?_⟩
 refine Cl.rng1 ?_
 refine Itr.rng (by decide) (by decide) (by refine rP (am _) ?_; exact iN rfl) (by refine rP (am _) ?_; exact iU hz rfl) fun I=>?_
 refine ⟨I,_,_,_,rfl,Cur.it hA'.hh _ I,Slf.it I,by unfold rngL; exact rP (am _) rfl,by refine rP aM (rP ai ?_); lia,fun u_ u_ u_ u_=>trivial,fun acc out rest x hx=>?_,?_⟩
 ·intro C2
  refine Asg.lo rfl rfl .h ⟨rfl,?_⟩
  refine Ev.bi (Ev.bi (Ev.ca rfl rfl (Ev.bui ok rfl rfl rfl rfl B.sum'.1 B.sum'.2 rfl ?_)))
  refine Evs.co rfl (Ev.sub (Ev.ce rfl rfl rfl (.t (.t (.t .h))) rfl ?_))
  refine Ev.slice (Part.of_none (Part.of_some (Ev.bi (Ev.lo rfl rfl .h rfl rfl (Ev.cn 1 (Bin.addI ⟨_,rfl,Part.of_none ?_⟩))))))
  refine Sub.lstS (fun u_ u_=>⟨_,rfl⟩) (by exact szM hz rfl) (by decide) ?_
  refine Evs.ni ⟨.bui,?_⟩
  refine rP (mE (by lia)) (rQ List.map_take ?_)
  refine Cl.sumL hA'.hh (Ev.lo rfl rfl .h rfl rfl (Bin.subI (Ev.cn 1 (Bin.subI ⟨?_,.le .ns0 .rest⟩))))
  have e:((0:Int)+(x:Int)+1).toNat=x+1:=by exact congrArg (· + 1) (Nat.add_comm _ _)
  refine rP e ?_
  congr 1; lia
 ·refine ⟨_,.drop (.drop .rest),?_⟩
  have e:((ns.length:Int) - 0).toNat=ns.length:=by rfl
  refine rP e ?_
  have e2:List.map (fun k:Nat=>D.int ((ns.take (k+1)).sum - k - 1)) (List.filter (fun u_=>true) (List.range ns.length))=(bK (some ns)).map .int:=by
   unfold bK; refine rP (List.filter_eq_self.mpr (fun u_ u_=>rfl)) (rP aG ?_); rfl
  refine rP e2 ?_
  exact h
end
end
section
section
variable {c:Cst}{A:Around}{led:Led}{Q:D->Led->Prop}{a:Addr}{fd:FuncData}
theorem w20n (ok:c.Ok) (hA:Aok A 2) (F:FnAt c a t20.1 fd) (h:Q (.lst ((bK none).map .int)) led):Cc c A (.ref a) [.none] led Q:=by
 refine F.call ok hA (F.bind1 (x:=⟨⟨[115,105,122,101,115]⟩⟩) fun v=>fun u_ u_ u_ u_ u_ u_ u_ u_ u_ u_ u_ u_=>rfl) rfl rfl ?_
 intro C a1 A' hA'
 refine Sto.cel rfl rfl rfl .h rfl ?_
 refine Exs.co (Ex.ite (Tst.cmp rfl (Ev.ce rfl rfl rfl .h rfl (Ev.cnone (Cmp.isN rfl ⟨_,rfl,?_⟩)))))
 refine Exs.co (Ex.ret (Ev.lst (Evs.co rfl (Ev.cn 0 (Evs.co rfl (Ev.cn 0 (Evs.co rfl (Ev.cn 0 (Evs.co rfl (Ev.cn 0 (Evs.ni ⟨by rw [ai]; simp,_,.drop (.drop .rest),h⟩)))))))))))
end
end
end Mine.Internal
end
section
open PySem PySem.W PySem.F PyProof.Rows
namespace Mine.Internal
section
noncomputable def exOf (s:Stmt):Expr:=
 if h:s.ctorIdx=5 then Stmt.Assign.elim (motive_2:=fun u_=>Expr) s h (fun u_ e u_=>e) else .Constant .none 0 ⟨0,0,0,0⟩
noncomputable def lwE (k:Nat):Expr:=exOf (t28.1.body.getD k (.Pass ⟨0,0,0,0⟩))
noncomputable abbrev nY:Str:=⟨⟨[115,99,114,105,112,116]⟩⟩
noncomputable abbrev nTotals:Str:=⟨⟨[116,111,116,97,108,115]⟩⟩
noncomputable abbrev nKey:Str:=⟨⟨[107,101,121]⟩⟩
noncomputable abbrev nColumn:Str:=⟨⟨[99,111,108,117,109,110]⟩⟩
noncomputable abbrev nWays:Str:=⟨⟨[119,97,121,115]⟩⟩
noncomputable abbrev nDrawn:Str:=⟨⟨[100,114,97,119,110]⟩⟩
noncomputable abbrev nComings:Str:=⟨⟨[99,111,109,105,110,103,115]⟩⟩
noncomputable abbrev nDays:Str:=⟨⟨[100,97,121,115]⟩⟩
noncomputable abbrev nMany:Str:=⟨⟨[109,97,110,121]⟩⟩
structure Fra where
 fd:FuncData
 a:Addr
 C:Addr
 a1:Addr
 a2:Addr
 a3:Addr
 a4:Addr
 a5:Addr
 a6:Addr
 a7:Addr
 a8:Addr
 a9:Addr
noncomputable abbrev Fra.e (f:Fra):Env:=fE f.fd t28.1 f.a f.C [(nMany,f.a9),(nDays,f.a8),(nComings,f.a7),(nDrawn,f.a6),(nWays,f.a5),(nColumn,f.a4),(nKey,f.a3),(nTotals,f.a2),(nY,f.a1)]
noncomputable def base (k:Nat):Int:=[8718,35,12,4,44].getD k 0
noncomputable def totI (script:List Int) (k:Nat):Int:=(base k+(pick script (some (k:Int)) (some 60) (some 5)).sum).fmod 1000000
noncomputable def tot (script:List Int) (k:Nat):Nat:=(totI script k).toNat
theorem tot_eq (script:List Int) (k:Nat):totI script k=((tot script k:Nat):Int):=(Int.toNat_of_nonneg (Int.fmod_nonneg_of_pos _ (by decide))).symm
noncomputable def way (j:Nat):Int:=[1,-1,2,-3].getD j 0
noncomputable def rowv (j:Nat):Int:=[0,1,2,3,4,127].getD j 0
theorem nth {l:List Int}{j n:Nat} (hn:l.length=n) (h:j<n):(l.map D.int)[jN (j:Int) (l.map D.int).length]? = some (.int (l.getD j 0)):=by
 refine rP cq (rP aK (rP (ao (by exact nT h (aq hn.symm))) (rP aF (rP (ao (by exact nT h (aq hn.symm))) ?_)))); rfl
theorem Sub.ints {c:Cst}{A:Around}{led:Led}{Q:D->Led->Prop}{val sl:Expr} (l:List Int){j n:Nat} (hs:eC sl) (hn:l.length=n) (h9:n<=100) (h:j<n) (q:Q (.int (l.getD j 0)) led):Sub c A val sl (.lst (l.map .int)) (.int (j:Int)) led Q:=
 Sub.lst hs (by refine rP (am _) (rP ai ?_); exact nD (nT (aq hn) h9) rfl) (by exact iM) (by refine rP (am _) ?_; exact iT (nT h (aq hn.symm))) (nth hn h) q
theorem Sub.nth {c:Cst}{A:Around}{led:Led}{Q:D->Led->Prop}{val sl:Expr}{f:Nat->D}{i:Int}{j n:Nat} (hi:i=(j:Int)) (hs:eC sl) (h9:n<=100) (h:j<n) (q:Q (f j) led):Sub c A val sl (.lst ((List.range n).map f)) (.int i) led Q:=by
 subst hi
 exact Sub.lst hs (by refine rP (am _) (rP aM (rP ai ?_)); exact nD h9 rfl) (by exact iM) (by refine rP (am _) (rP aM ?_); exact iT h) (by refine rP cq (rP aK (rP (List.getElem?_range h) ?_)); rfl) q
theorem nZ {α β:Type} (f:α->β) (l:List α) (lo hi st:Option Int):pick (l.map f) lo hi st=(pick l lo hi st).map f:=by
 unfold pick
 refine rP (am _) (rP List.map_filterMap ?_)
 congr 1
 funext x
 exact rP aK rfl
section
variable {c:Cst}{A:Around}{led:Led}{Q:D->Led->Prop}
theorem lwTotals (ok:c.Ok) (B:Bui c) (hh:A.handled=none) (f:Fra) (script:List Int) (hz:script.length<=100) (h1:At led f.a1 (.cell (some (.lst (script.map .int))))) (h:Q (.lst ((List.range 5).map fun k=>.int (tot script k))) led):Ev c A f.e (lwE 0) led Q:=by
 refine Ev.compR (n:=5) (p:=fun u_=>true) (f:=fun k=>.int (tot script k)) hh rfl rfl (by decide) (fun u_=>rfl) ?_
 refine Ev.ca rfl rfl (Ev.bui ok rfl rfl rfl rfl B.range'.1 B.range'.2 rfl (Evs.co rfl (Ev.cn 5 (Evs.ni ⟨.typ,Cl.rng1 ⟨rfl,by decide,?_,?_⟩⟩))))
 ·intro acc out I rest k hk C2
  refine Asg.lo rfl rfl .h ⟨rfl,Ev.bi (Ev.bi (Ev.sub (Ev.lst (Evs.co rfl (Ev.cn 8718 (Evs.co rfl (Ev.cn 35 (Evs.co rfl (Ev.cn 12 (Evs.co rfl (Ev.cn 4 (Evs.co rfl (Ev.cn 44 (Evs.ni ⟨by rw [ai]; decide,?_⟩))))))))))))))⟩
  refine Ev.lo rfl rfl .h rfl rfl (Sub.ints [8718,35,12,4,44] (fun u_ u_=>rfl) rfl (by decide) hk ?_)
  refine Ev.ca rfl rfl (Ev.bui ok rfl rfl rfl rfl B.sum'.1 B.sum'.2 rfl (Evs.co rfl (Ev.sub (Ev.ce rfl rfl rfl (.t (.t (.t h1))) rfl ?_))))
  refine Ev.slice (Part.of_some (Ev.lo rfl rfl .h rfl rfl ⟨_,rfl,Part.of_some (Ev.cn 60 ⟨_,rfl,Part.of_some (Ev.cn 5 ⟨_,rfl,?_⟩)⟩)⟩))
  refine Sub.lstS (fun u_ u_=>⟨_,rfl⟩) (by exact szM hz rfl) (by decide) (Evs.ni ⟨.bui,?_⟩)
  refine rP (nZ _ _ _ _ _) ?_
  refine Cl.sumL hh (Bin.addI (Ev.cn 1000000 (Bin.modI (by decide) ⟨?_,.le .ns0 .rest⟩)))
  exact congrArg D.int (tot_eq script k)
 ·refine rP (List.filter_eq_self.mpr (fun u_ u_=>rfl)) ?_; exact h
theorem lwKey (f:Fra) (T:Nat->Nat) (h2:At led f.a2 (.cell (some (.lst ((List.range 5).map fun k=>.int (T k)))))) (h:Q (.int ((T 0 / 864:Nat):Int)) led):Ev c A f.e (lwE 1) led Q:=
 Ev.bi (Ev.sub (Ev.ce rfl rfl rfl h2 rfl (Ev.cn 0 (Sub.nth (j:=0) rfl (fun u_ u_=>rfl) (by decide) (by decide) (Ev.cn 864 (Bin.divN rfl (by decide) (by decide) h))))))
theorem lwColumn (f:Fra) (k:Nat) (h3:At led f.a3 (.cell (some (.int (k:Int))))) (h:Q (.int ((k % 2:Nat):Int)) led):Ev c A f.e (lwE 2) led Q:=
 Ev.bi (Ev.ce rfl rfl rfl h3 rfl (Ev.cn 2 (Bin.modN rfl (by decide) h)))
theorem lwWays (hh:A.handled=none) (f:Fra) (k:Nat) (h3:At led f.a3 (.cell (some (.int (k:Int))))) (h:Q (.lst ([2,8,32].map fun s:Nat=>.int (way (k / s % 4)))) led):Ev c A f.e (lwE 3) led Q:=by
 refine Ev.compO (xs:=[2,8,32]) (g:=fun s:Nat=>.int (s:Int)) (p:=fun u_=>true) (f:=fun s:Nat=>.int (way (k / s % 4))) hh rfl rfl (by decide) (fun u_=>rfl) ?_
 refine Ev.tup (Evs.co rfl (Ev.cn 2 (Evs.co rfl (Ev.cn 8 (Evs.co rfl (Ev.cn 32 (Evs.ni ⟨by rw [ai]; decide,.tup,by rw [ai]; decide,?_,h⟩)))))))
 intro acc out I rest s hs C2
 have hs:s≠0/\s<1000000:=by simp at hs; lia
 refine Asg.lo rfl rfl .h ⟨rfl,Ev.sub (Ev.lst (Evs.co rfl (Ev.cn 1 (Evs.co rfl (Ev.una (Ev.cn 1 (Una.negI (Evs.co rfl (Ev.cn 2 (Evs.co rfl (Ev.una (Ev.cn 3 (Una.negI (Evs.ni ⟨by rw [ai]; decide,?_⟩))))))))))))))⟩
 refine Ev.bi (Ev.bi (Ev.ce rfl rfl rfl (.t (.t (.t h3))) rfl (Ev.lo rfl rfl .h rfl rfl (Bin.divN rfl hs.1 hs.2 (Ev.cn 4 (Bin.modN rfl (by decide) ?_))))))
 exact Sub.ints [1,-1,2,-3] (fun u_ u_=>rfl) rfl (by decide) (Nat.mod_lt _ (by decide)) ⟨rfl,.le .ns0 .rest⟩
theorem lwRow (hh:A.handled=none) (f:Fra) (T:Nat->Nat) (h2:At led f.a2 (.cell (some (.lst ((List.range 5).map fun k=>.int (T k))))))
  (h:Q (.lst (((((T 0 % 4:Nat):Int))::[4,24,144].map fun s:Nat=>rowv (T 0 / s % 6)).map .int)) led):Ev c A f.e (lwE 4) led Q:=by
 refine Ev.bi (Ev.lst (Evs.co rfl (Ev.bi (Ev.sub (Ev.ce rfl rfl rfl h2 rfl (Ev.cn 0 (Sub.nth (j:=0) rfl (fun u_ u_=>rfl) (by decide) (by decide) (Ev.cn 4 (Bin.modN rfl (by decide) (Evs.ni ⟨by refine rP ai ?_; show 1<=16777216; decide,?_⟩))))))))))
 refine Ev.compO (xs:=[4,24,144]) (g:=fun s:Nat=>.int (s:Int)) (p:=fun u_=>true) (f:=fun s:Nat=>.int (rowv (T 0 / s % 6))) hh rfl rfl (by decide) (fun u_=>rfl) ?_
 refine Ev.tup (Evs.co rfl (Ev.cn 4 (Evs.co rfl (Ev.cn 24 (Evs.co rfl (Ev.cn 144 (Evs.ni ⟨by rw [ai]; decide,.tup,by rw [ai]; decide,?_,Bin.addL (by refine rP ai ?_; show 1+3<=16777216; decide) h⟩)))))))
 intro acc out I rest s hs C2
 have hs:s≠0/\s<1000000:=by simp at hs; lia
 refine Asg.lo rfl rfl .h ⟨rfl,Ev.sub (Ev.lst (Evs.co rfl (Ev.cn 0 (Evs.co rfl (Ev.cn 1 (Evs.co rfl (Ev.cn 2 (Evs.co rfl (Ev.cn 3 (Evs.co rfl (Ev.cn 4 (Evs.co rfl (Ev.cn 127 (Evs.ni ⟨by rw [ai]; decide,?_⟩))))))))))))))⟩
 refine Ev.bi (Ev.bi (Ev.sub (Ev.ce rfl rfl rfl (.t (.t (.t h2))) rfl (Ev.cn 0 (Sub.nth (j:=0) rfl (fun u_ u_=>rfl) (by decide) (by decide) ?_)))))
 refine Ev.lo rfl rfl .h rfl rfl (Bin.divN rfl hs.1 hs.2 (Ev.cn 6 (Bin.modN rfl (by decide) ?_)))
 exact Sub.ints [0,1,2,3,4,127] (fun u_ u_=>rfl) rfl (by decide) (Nat.mod_lt _ (by decide)) ⟨rfl,.le .ns0 .rest⟩
theorem lwDrawn (ok:c.Ok) (B:Bui c) (hA:Aok A 3) (f:Fra){w:Addr}{fdw:FuncData} (F:FnAt c w t17.1 fdw) (g:c.mg ⟨⟨[95,108,97,119,95,119,111,114,100]⟩⟩=some (.ref w)) (T:Nat->Nat) (h2:At led f.a2 (.cell (some (.lst ((List.range 5).map fun k=>.int (T k))))))
  (h:Q (.lst ((List.range 4).map fun k=>gC (T (k+1)) (gch k))) led):Ev c A f.e (lwE 5) led Q:=by
 refine Ev.compR (n:=4) (p:=fun u_=>true) (f:=fun k=>gC (T (k+1)) (gch k)) hA.hh rfl rfl (by decide) (fun u_=>rfl) ?_
 refine Ev.ca rfl rfl (Ev.bui ok rfl rfl rfl rfl B.range'.1 B.range'.2 rfl (Evs.co rfl (Ev.cn 4 (Evs.ni ⟨.typ,Cl.rng1 ⟨rfl,by decide,?_,?_⟩⟩))))
 ·intro acc out I rest k hk C2
  refine Asg.lo rfl rfl .h ⟨rfl,F.ev ok g rfl rfl rfl rfl rfl rfl (Evs.co rfl (Ev.sub (Ev.ce rfl rfl rfl (.t (.t (.t h2))) rfl ?_)))⟩
  refine Ev.bi (Ev.lo rfl rfl .h rfl rfl (Ev.cn 1 (Bin.addI (Sub.nth (j:=k+1) (by rfl) (fun u_ u_=>rfl) (by decide) (by exact aB hk) ?_))))
  refine Evs.co rfl (Ev.sign (fun u_ u_=>rfl) (Ev.lo rfl rfl .h rfl rfl ⟨k,rfl,hk,Evs.ni ?_⟩))
  exact w17 ok B (hA.le (by decide)) F _ _ ⟨rfl,.le .ns0 .rest⟩
 ·refine rP (List.filter_eq_self.mpr (fun u_ u_=>rfl)) ?_; exact h
end
end
section
set_option tactic.hygienic true
noncomputable def gT (t ch:Nat):List Nat:=spN t ch++[enN t]
noncomputable def bP (T:Nat->Nat):Nat->Nat->List Nat
 | _,0=>[]
 | k,m+1=>gT (T (k+1)) (gch k)++bP T (k+1) m
theorem og (t ch:Nat):(spN t ch).length<=12:=by
 have a:=fV (qd t) (woN t ch)
 have w:=woN_n t ch
 have hraw:∀ l:List It,(rawOf l).length<=2*l.length:=fun l=>by
  induction l with
  | nil=>exact aC _
  | cons i l ih=>
   refine (?_:(i.raw++rawOf l).length<=_)
   have:i.raw.length<=2:=by unfold It.raw; split <;> simp -iota
   refine rP aH (rP aJ ?_); exact mul4 ih (by assumption)
 have b:=hraw (dc (qd t) (woN t ch))
 unfold spN
 split
 ·rename_i h
  rw [h] at a b
  refine rP aH (rP aJ (rP List.length_singleton ?_)); lia
 ·rename_i h
  rw [Bool.not_eq_true] at h
  rw [h] at a b
  lia
theorem fW (t ch:Nat):(gT t ch).length<=13:=by have:=og t ch; unfold gT; refine rP aH ?_; show _+1<=13; exact aB this
theorem iE (T:Nat->Nat):∀ m k,(bP T k m).length<=13*m
 | 0,_=>aC 0
 | m+1,k=>by have:=iE T m (k+1); have:=fW (T (k+1)) (gch k); unfold bP; refine rP aH ?_; lia
theorem enN_one (t:Nat):∀ k∈[enN t],isW k=true:=fun k hk=>by refine rP (List.mem_singleton.mp hk) ?_; exact enN_w t
section
variable {c:Cst}{A:Around}{led:Led}{Q:D->Led->Prop}
theorem Ev.txs {env:Env}{x y:Str}{m:List (Str×D)}{p1 p2 p3:Pos}{a b:List Nat} (hz:a.length+b.length<=10000) (hk:env.scope.kind = .function) (l1:env.kindOf x=some .local) (l2:env.kindOf y=some .local) (hm:At led env.locals (.ns m)) (hx:m.lookup x=some (.str (tx a))) (hy:m.lookup y=some (.str (tx b)))
  (d1:(x == ("__debug__" : Str))=false) (d2:(y == ("__debug__" : Str))=false) (h:Q (.str (tx (a++b))) led):Ev c A env (.BinOp (.Name x p1) .Add (.Name y p2) p3) led Q:=
 Ev.bi (Ev.lo hk l1 hm hx d1 (Ev.lo hk l2 hm hy d2 (Bin.addX hz h)))
theorem lwGate (ok:c.Ok) (B:Bui c) (hA:Aok A 6) (f:Fra) (L:Lx c) (T:Nat->Nat) (h6:At led f.a6 (.cell (some (.lst ((List.range 4).map fun k=>gC (T (k+1)) (gch k)))))) (hT:At led L.T L.tab)
  (h:∀ fr Bc S P2 dy P dx,RdFn fr Bc->Q (.obj (instObj L.Kl dx)) ((P,.lst [])::(dx,.dic (mw 1 (.obj (instObj L.Kl dy)) P))::(P2,.lst [])::(dy,.dic (nB P2 fr))::(S,.lst (chD (bP T 0 4)))::(Bc,.cell (some (.ref S)))::led)):Ev c A f.e (lwE 6) led Q:=by
 refine Ev.ca rfl rfl (Ev.glo ok rfl rfl rfl L.K.g rfl (Evs.co rfl (L.f16.F.ev ok L.f16.g rfl rfl rfl rfl rfl rfl (Evs.co rfl (Ev.meth rfl rfl rfl rfl (Ev.cstr (Mth.str slot_str_join rfl (Evs.co rfl ?_))))))))
 refine Ev.compL (xs:=List.range 4) (g:=fun k=>gC (T (k+1)) (gch k)) (p:=fun u_=>true) (f:=fun k=>.str (tx (gT (T (k+1)) (gch k)))) hA.hh rfl rfl (by decide) (fun u_=>rfl) ?_
 refine Ev.ce rfl rfl rfl h6 rfl ⟨rfl,by rw [ai]; decide,?_,?_⟩
 ·intro acc out I rest k hk C2
  refine Asg.tup hA.hh rfl rfl (Asg.lo rfl rfl .h (Asg.lo rfl rfl .h (Asg.lo rfl rfl .h (Asg.lo rfl rfl .h ⟨rfl,?_⟩))))
  refine Ev.txs ?_ rfl rfl rfl .h rfl rfl rfl rfl ⟨rfl,.le .ns0 .rest⟩
  have:=og (T (k+1)) (gch k)
  refine (?_:_+1<=_)
  exact nD (aB this) rfl
 ·refine Evs.ni ⟨.bui,?_⟩
  have e:((List.range 4).filter fun u_=>true).map (fun k=>D.str (tx (gT (T (k+1)) (gch k))))=((List.range 4).map fun k=>tx (gT (T (k+1)) (gch k))).map .str:=rfl
  refine rP e ?_
  refine Cl.join ?_ ?_
  ·have h0:=fW (T 1) (gch 0)
   have h1:=fW (T 2) (gch 1)
   have h2:=fW (T 3) (gch 2)
   have h3:=fW (T 4) (gch 3)
   refine (?_:(gT (T 1) (gch 0)).length+((gT (T 2) (gch 1)).length+((gT (T 3) (gch 2)).length+((gT (T 4) (gch 3)).length+0)))+4*0<=16777216)
   exact nD (aQ (aQ h0 (aQ h1 (aQ h2 h3))) (Nat.mul_le_mul_left _ (aC _))) rfl
  ·refine rP (show ((List.range 4).map fun k=>tx (gT (T (k+1)) (gch k)))=((List.range 4).map fun k=>gT (T (k+1)) (gch k)).map tx from rfl) (rP (nN _) ?_)
   refine Evs.ni (w16 ok B (hA.le (by decide)) L.f16.F L.N L.K _ ?_ hT fun fr Bc S P2 dy hr=>Evs.ni ⟨.cls ok L.K.kp,L.K.new ok (hA.le (by decide)) _ fun P dx=>h fr Bc S P2 dy P dx hr⟩)
   exact Nat.le_trans (iE T 4 0) (by decide)
noncomputable def jD (L:Lx c) (P dx P2 dy S B:Addr) (fr:FuncData) (n:Int) (sg:List Nat) (led:Led):Led:=
 (P,.lst [])::(dx,.dic (mw n (.obj (instObj L.Kl dy)) P))::(P2,.lst [])::(dy,.dic (nB P2 fr))::(S,.lst (chD sg))::(B,.cell (some (.ref S)))::led
theorem gateV (L:Lx c) (P dx P2 dy S B:Addr) (fr:FuncData) (led:Led):LexV c L.Kl dx dy P P2 S B fr (fun n sg=>jD L P dx P2 dy S B fr n sg led):=
 ⟨fun u_ u_=>.t .h,fun u_ u_=>.h,fun u_ u_=>.t (.t (.t .h)),fun u_ u_=>.t (.t (.t (.t (.t .h)))),fun u_ u_=>.t (.t (.t (.t .h))),fun u_ u_ u_=>.t .h,fun u_ u_ u_=>.t (.t (.t (.t .h)))⟩
theorem spN_q {t ch:Nat} (h:qd t=true):spN t ch=34::rawOf (dc true (woN t ch))++[34]:=by unfold spN; exact rP (aY h) rfl
theorem spN_e {t ch:Nat} (h:qd t=false):spN t ch=rawOf (dc false (woN t ch)):=by unfold spN; exact rP (aX (by rw [h]; decide)) rfl
theorem lwGet (ok:c.Ok) (Bn:Bui c) (hA:Aok A 6) (L:Lx c){P dx P2 dy S B:Addr}{fr:FuncData} (R:RdFn fr B) (front:Led) (led:Led){n:Int}{t ch:Nat}{pre foll:List Nat} (hp:∀ k∈pre,isW k=true) (hz:pre.length+foll.length<=500)
  (h:Q (.str (woN t ch).s) (front++jD L P dx P2 dy S B fr (n+nls (pre++(gT t ch++foll)) - nls ((if qd t=true then [enN t] else [])++foll)) ((if qd t=true then [enN t] else [])++foll) led)) :
  Cc c A (.ref L.fG) [.obj (instObj L.Kl dx)] (front++jD L P dx P2 dy S B fr n (pre++(gT t ch++foll)) led) Q:=by
 have w:=woN_n t ch
 have V:=(gateV L P dx P2 dy S B fr led).app front
 cases hq:qd t with
 | true=>
  rw [hq,aY rfl] at h
  have hi:=fV true (woN t ch)
  refine wgt2 (its:=dc true (woN t ch)) (rest:=[enN t]++foll) V ok Bn hA L.FG L.X R hp (by rw [aH,List.length_singleton]; lia) (.inl ⟨?_,fun i hi he=>?_⟩) ?_
  ·unfold gT; refine rP (spN_q hq) ?_; simp -iota
  ·unfold dc at hi
   simp -iota only [List.mem_append,List.mem_replicate,List.mem_cons] at hi
   rcases hi with ⟨_,rfl⟩ | rfl | ⟨_,rfl⟩
   ·exact ⟨by decide,by decide⟩
   ·exact tF he
   ·exact ⟨by decide,by decide⟩
  ·refine rP (jC _ _) ?_; exact h
 | false=>
  rw [hq,aX (by decide)] at h
  have hi:=fV false (woN t ch)
  refine wgt2 (its:=dc false (woN t ch)) (rest:=foll) V ok Bn hA L.FG L.X R hp (by lia) (.inr ⟨enN t,?_,enN_w t,fun e=>?_,fun i hi=>?_⟩) ?_
  ·unfold gT; refine rP (spN_e hq) ?_; simp -iota
  ·rw [e] at hi; simp -iota at hi
  ·unfold dc at hi
   simp -iota only [List.mem_append,List.mem_replicate,List.mem_cons] at hi
   rcases hi with ⟨_,rfl⟩ | rfl | ⟨_,rfl⟩ <;> rfl
  ·refine rP (jC _ _) ?_; exact h
end
end
section
noncomputable def lwS (k:Nat):Stmt:=t28.1.body.getD k (.Pass ⟨0,0,0,0⟩)
noncomputable def caOf (e:Expr):Expr:=
 if h:e.ctorIdx=16 then Expr.Call.elim (motive_1:=fun u_=>Expr) e h (fun u_ a u_ u_=>a.headD e) else e
noncomputable def szOf (s:Stmt):Expr:=
 if h:s.ctorIdx=9 then Stmt.For.elim (motive_2:=fun u_=>Expr) s h (fun u_ e u_ u_ u_=>caOf e) else .Constant .none 0 ⟨0,0,0,0⟩
noncomputable def lwSz:Expr:=szOf (lwS 9)
noncomputable abbrev nGate:Str:=⟨⟨[103,97,116,101]⟩⟩
noncomputable abbrev dM:Str:=⟨⟨[99,111,109,101,114,115]⟩⟩
noncomputable abbrev kn:Str:=⟨⟨[98,101,104,105,110,100]⟩⟩
noncomputable abbrev mA:Str:=⟨⟨[114,111,119]⟩⟩
structure GFr (m:List (Str×D)) (K Kl dx:Addr) (row:D) (bh:List Nat):Prop where
 g:m.lookup nGate=some (.obj (instObj Kl dx))
 c:m.lookup dM=some (.ref K)
 r:m.lookup mA=some row
 b:m.lookup kn=some (.str (tx bh))
noncomputable def cD (T:Nat->Nat) (cm:List Int) (k:Nat):D:=.tup [.int (cm.getD k 0),.str (woN (T (k+1)) (gch k)).s]
section
variable {c:Cst}{A:Around}{led:Led}{Q:D->Led->Prop}{QF:Fl->Led->Prop}
theorem wcom (ok:c.Ok) (B:Bui c) (hA:Aok A 2){a:Addr}{fd:FuncData} (F:FnAt c a t20.1 fd) (o:Option (List Int)) (hz:∀ ns,o=some ns->ns.length<=100) (h:Q (.lst ((bK o).map .int)) led):Cc c A (.ref a) [jy o] led Q:=by
 induction o with
 | none=>exact w20n ok hA F h
 | some ns=>exact w20 ok B hA F ns (hz _ rfl) h
inductive VL3 {c:Cst} (L:Lx c) (fr:FuncData) (lb:List (Str×D)->Led) (T:Nat->Nat) (cm:List Int) (row:D) (P dx P2 dy S Bc K:Addr) (ds:List D) (l:Led):Prop
 | mk (i:Nat) (m:List (Str×D)) (n:Int) (pre:List Nat) (bh:List Nat):ds=(cm.drop i).map .int->i<=cm.length->l=(K,.lst ((List.range i).map (cD T cm)))::jD L P dx P2 dy S Bc fr n (pre++bP T i (4 - i)) (lb m)->GFr m K L.Kl dx row bh->(∀ k∈pre,isW k=true)->pre.length<=1->n+nls (pre++bP T i (4 - i))=1+nls (bP T 0 4)->bh++bP T i (4 - i)=bP T 0 4->VL3 L fr lb T cm row P dx P2 dy S Bc K ds l
theorem lwFor (ok:c.Ok) (B:Bui c) (hA:Aok A 8) (f:Fra) (L:Lx c) (f20:Def c t20.1 ⟨⟨[95,108,97,119,95,99,111,109,105,110,103,115]⟩⟩) (T:Nat->Nat) (row:D) (o:Option (List Int)) (hz:∀ ns,o=some ns->ns.length<=100) (h4:(bK o).length<=4)
  {P dx P2 dy S Bc K:Addr}{fr:FuncData} (R:RdFn fr Bc) (lb:List (Str×D)->Led) (U:∀ m m',Up (lb m) f.e.locals (.ns m) (.ns m') (lb m')) (h6:∀ m,At (lb m) f.a6 (.cell (some (.lst ((List.range 4).map fun k=>gC (T (k+1)) (gch k)))))) (m:List (Str×D)) (g:GFr m K L.Kl dx row [])
  (h18:∀ Q':D->Led->Prop,Q' (jy o) ((K,.lst [])::jD L P dx P2 dy S Bc fr 1 (bP T 0 4) (lb m))->Ev c A f.e lwSz ((K,.lst [])::jD L P dx P2 dy S Bc fr 1 (bP T 0 4) (lb m)) Q')
  (h:∀ m n sg bh,GFr m K L.Kl dx row bh->QF .next ((K,.lst ((List.range (bK o).length).map (cD T (bK o))))::jD L P dx P2 dy S Bc fr n sg (lb m))) :
  Ex c A f.e (lwS 9) ((K,.lst [])::jD L P dx P2 dy S Bc fr 1 (bP T 0 4) (lb m)) QF:=by
 refine Ex.forO (ds:=(bK o).map .int) hA.hh (fun u_=>rfl) (f20.F.ev ok f20.g rfl rfl rfl rfl rfl rfl (Evs.co rfl (h18 _ (Evs.ni (wcom ok B (hA.le (by decide)) f20.F o hz ?_)))))
 generalize bK o=cm at h4 h
 refine ⟨.lst,VL3 L fr lb T cm row P dx P2 dy S Bc K,⟨0,m,1,[],[],rfl,aO _,rfl,g,by simp,by simp,rfl,rfl⟩,?_,?_⟩
 ·clear h18 g m
  intro d rest l I hv
  obtain ⟨i,m,n,pre,bh,e1,e2,rfl,g,hp,hp1,hn,hb⟩:=hv
  have hi:i<cm.length:=by
   by_cases q:i<cm.length
   ·exact q
   ·rw [List.drop_of_length_le (by exact aZ q)] at e1; exact cN' e1
  rw [List.drop_eq_getElem_cons hi,aA] at e1
  obtain ⟨rfl,rfl⟩:=List.cons.inj e1
  have hx:cm[i]=cm.getD i 0:=by refine rP aF (rP (ao hi) ?_); rfl
  refine rP hx ?_
  obtain ⟨j,hj⟩:∃ j,4 - i=j+1:=⟨3 - i,by exact s31 hi (by assumption)⟩
  have hj2:4 - (i+1)=j:=by exact subE hj
  rw [hj,show bP T i (j+1)=gT (T (i+1)) (gch i)++bP T (i+1) j from rfl] at hn hb ⊢
  have hfl:=iE T j (i+1)
  have hsl:=og (T (i+1)) (gch i)
  have hbl:bh.length<=52:=by
   have:=congrArg List.length hb
   have:=iE T 4 0
   rw [aH] at *; lia
  generalize hfo:bP T (i+1) j=foll at *
  generalize ht:T (i+1)=t at *
  refine Asg.lo rfl rfl (.t (.t (.t (.t (.t (.t (.t (.t (U _ _))))))))) ?_
  refine Exs.co (Ex.asgT rfl rfl (Ev.sub (Ev.ce rfl rfl rfl (.t (.t (.t (.t (.t (.t (.t (.t (h6 _))))))))) rfl (Ev.ca rfl rfl (Ev.bui ok rfl rfl rfl rfl B.len'.1 B.len'.2 rfl (Evs.co rfl (Ev.lo rfl rfl (.t (.t (.t (.t (.t (.t (.t (.t (U _ []).at)))))))) g.c rfl (Evs.ni ⟨.bui,Cl.lenM (.t .h) (by refine rP (am _) (rP aM (rP ai ?_)); exact nD (nT (nL hi) h4) rfl) ?_⟩))))))))
  refine Sub.nth (j:=i) (by exact rP (am _) (rP aM rfl)) (fun u_ u_=>rfl) (by decide) (by exact nT hi h4) ?_
  refine rP ht ?_
  refine Asg.tup hA.hh rfl rfl (Asg.lo rfl rfl (.t (.t (.t (.t (.t (.t (.t (.t (U _ _))))))))) (Asg.lo rfl rfl (.t (.t (.t (.t (.t (.t (.t (.t (U _ _))))))))) (Asg.lo rfl rfl (.t (.t (.t (.t (.t (.t (.t (.t (U _ _))))))))) (Asg.lo rfl rfl (.t (.t (.t (.t (.t (.t (.t (.t (U _ _))))))))) ?_))))
  generalize hm2:(⟨⟨[116,97,107,101,110]⟩⟩,D.str (tx (tkN t)))::(⟨⟨[101,110,100]⟩⟩,D.str (tx [enN t]))::(⟨⟨[115,112,101,108,108,101,100]⟩⟩,D.str (tx (spN t (gch i))))::(⟨⟨[119,111,114,100]⟩⟩,D.str (woN t (gch i)).s)::(⟨⟨[99,97,109,101]⟩⟩,D.int (cm.getD i 0))::m=m2
  have g2:GFr m2 K L.Kl dx row bh:=by subst hm2; exact ⟨g.g,g.c,g.r,g.b⟩
  have l1:m2.lookup ⟨⟨[116,97,107,101,110]⟩⟩=some (.str (tx (tkN t))):=by subst hm2; rfl
  have l2:m2.lookup ⟨⟨[101,110,100]⟩⟩=some (.str (tx [enN t])):=by subst hm2; rfl
  have l3:m2.lookup ⟨⟨[115,112,101,108,108,101,100]⟩⟩=some (.str (tx (spN t (gch i)))):=by subst hm2; rfl
  have l4:m2.lookup ⟨⟨[99,97,109,101]⟩⟩=some (.int (cm.getD i 0)):=by subst hm2; rfl
  clear hm2 g
  refine Exs.co (Ex.expr rfl rfl (Ev.meth rfl rfl rfl rfl (Ev.lo rfl rfl (.t (.t (.t (.t (.t (.t (.t (.t (U _ []).at)))))))) g2.c rfl (Mth.lstM (.t .h) PySem.F.slot_list_append rfl (Evs.co rfl (Ev.tup (Evs.co rfl (Ev.lo rfl rfl (.t (.t (.t (.t (.t (.t (.t (.t (U _ []).at)))))))) l4 rfl (Evs.co rfl ?_)))))))))
  refine Ev.meth rfl rfl rfl rfl (Ev.lo rfl rfl (.t (.t (.t (.t (.t (.t (.t (.t (U _ []).at)))))))) g2.g rfl (Mth.inst ok L.MG.g L.MG.fi L.MG.fn (.t (.t (.t .h))) rfl (Evs.ni ⟨L.FG.kpr,Cl.of ?_⟩)))
  refine lwGet ok B (hA.le (by decide)) L R [(I,_),(K,_)] (lb m2) hp (by lia) ?_
  have hcut:bh++spN t (gch i)++tkN t++((if qd t=true then [enN t] else [])++foll)=bP T 0 4:=by
   refine rQ hb ?_
   unfold tkN gT
   split <;> simp
  generalize hn2:n+nls (pre++(gT t (gch i)++foll)) - nls ((if qd t=true then [enN t] else [])++foll)=n2
  have hn3:n2+nls ((if qd t=true then [enN t] else [])++foll)=1+nls (bP T 0 4):=by lia
  have hpre2:∀ k∈(if qd t=true then [enN t] else []),isW k=true:=by split; exact enN_one t; simp
  have hpl2:(if qd t=true then [enN t] else []).length<=1:=by split <;> simp
  generalize (if qd t=true then [enN t] else [])=pre2 at *
  refine Evs.ni ⟨by refine rP ai ?_; exact (by decide:2<=16777216),Evs.ni ⟨.bui,Cl.append (.t .h) (by refine rP (am _) (rP aM (rP ai ?_)); exact nD (nT (nL hi) h4) rfl) ⟨rfl,?_⟩⟩⟩
  refine Exs.co (Ex.ite (Tst.cmp rfl (Ev.att rfl (Ev.lo rfl rfl (.t (.t (.t (.t (.t (.t (.t (.t (U _ []).at)))))))) g2.g rfl (Gat.own ok L.X.k3.g L.X.k3.h L.X.k3.f rfl (.t (.t (.t .h))) rfl rfl (Ev.bi (Ev.cn 1 (Ev.meth rfl rfl rfl rfl (Ev.bi ?_)))))))))
  refine Ev.txs (by exact nD (aQ hbl hsl) rfl) rfl rfl rfl (.t (.t (.t (.t (.t (.t (.t (.t (U _ []).at)))))))) g2.b l3 rfl rfl ?_
  have htk:(tkN t).length<=1:=by unfold tkN; split <;> simp
  refine Ev.lo rfl rfl (.t (.t (.t (.t (.t (.t (.t (.t (U _ []).at)))))))) l1 rfl (Bin.addX (by refine rP aH ?_; exact nD (aQ (aQ hbl hsl) htk) rfl) (Mth.str slot_str_count rfl (Evs.co rfl (Ev.cstr (Evs.ni ⟨.bui,Cl.count (Bin.addI (Cmp.neI ⟨_,rfl,?_⟩))⟩)))))
  rw [show (⟨⟨[10]⟩⟩:Str)=⟨⟨[10]⟩⟩ from rfl,nO,aX ?_]
  ·refine Exs.ni (Exs.co (Ex.augN (Ldn.loc rfl rfl (.t (.t (.t (.t (.t (.t (.t (.t (U _ []).at)))))))) g2.b (Ev.txs (b:=[enN t]) ?_ rfl rfl rfl (.t (.t (.t (.t (.t (.t (.t (.t (U _ []).at)))))))) l3 l2 rfl rfl (Inp.addS ?_ (Sto.lo rfl rfl (.t (.t (.t (.t (.t (.t (.t (.t (U _ _))))))))) ?_))))))
   ·refine (?_:_+1<=_); exact nD (aB hsl) rfl
   ·refine (?_:bh.length+(spN t (gch i)++[enN t]).length<=sizeLine)
    refine rP ai (rP aH ?_)
    refine (?_:_+(_+1)<=_)
    exact nD (aQ hbl (aB hsl)) rfl
   ·refine Exs.ni ⟨_,.h,i+1,(kn,D.str (tx bh++tx (spN t (gch i)++[enN t])))::m2,n2,pre2,bh++gT t (gch i),rfl,hi,?_,⟨g2.g,g2.c,g2.r,?_⟩,hpre2,hpl2,?_,?_⟩
    ·refine rP hj2 (rP hfo (rP List.range_succ (rP aI ?_)))
     unfold cD
     refine rP aA (rP List.map_nil (rP ht ?_)); rfl
    ·refine (?_:some (D.str (tx bh++tx (spN t (gch i)++[enN t])))=_)
     refine rP (jB _ _) ?_; rfl
    ·refine rP hj2 (rP hfo ?_); exact hn3
    ·refine rP hj2 (rP hfo (rP (List.append_assoc _ _ _) ?_)); exact hb
  ·have:=congrArg nls hcut
   rw [eH] at this
   have e:n2=1+nls (bh++spN t (gch i)++tkN t):=by rw [eH] at hn3; lia
   refine rP e ?_; simp
 ·intro l hv
  obtain ⟨i,m,n,pre,bh,e1,e2,rfl,g,_⟩:=hv
  have hi:i=cm.length:=by
   by_cases q:i<cm.length
   ·rw [List.drop_eq_getElem_cons q] at e1; exact nC e1
   ·exact Nat.le_antisymm e2 (aZ q)
  subst hi
  exact h m n _ bh g
end
end
section
noncomputable def reOf (s:Stmt):Expr:=
 if h:s.ctorIdx=3 then Stmt.Return.elim (motive_2:=fun u_=>Expr) s h (fun e u_=>e.getD (.Constant .none 0 ⟨0,0,0,0⟩)) else .Constant .none 0 ⟨0,0,0,0⟩
noncomputable def cpOf (s:Stmt):Expr:=
 if h:s.ctorIdx=17 then Stmt.Try.elim (motive_2:=fun u_=>Expr) s h (fun b u_ u_ u_ u_=>reOf (b.headD s)) else reOf s
noncomputable def dF:Expr:=cpOf (t18.1.body.getD 0 (.Pass ⟨0,0,0,0⟩))
noncomputable def itOf (e:Expr):Expr:=
 if h:e.ctorIdx=8 then Expr.ListComp.elim (motive_1:=fun u_=>Expr) e h (fun u_ g u_ u_=>(g.map Comprehension.iter).headD e) else e
noncomputable abbrev sGrI:Str:=⟨⟨[95,103,114,111,117,112,105,110,103,95,105,110,116,101,114,118,97,108,115]⟩⟩
section
variable {c:Cst}{A:Around}{led:Led}{Q:D->Led->Prop}{Z:HP}{s:Shared}
theorem szIter (hc:c.gf=none) (ok:c.Ok) (B:Bui c) (hroom:A.depth<recursionLimit) (f6:Def c t06.1 sGrI){fd:FuncData}{a S:Addr}{m:List (Str×D)}{row:List Int} (hm:At led S (.ns m)) (hx:m.lookup mA=some (.lst (row.map .int))) (r:R c Z led s){Q:Value->Shared->Prop}
  (h:∀ z TI TO i1 C ga g nm qn l vs nn Z' s',Z.le Z'->Z' TI=some (prO (.ref i1) (.ref ga))->Z' ga=some (genO g nm qn)->Z' l=some (ci vs nn)->(∃ xs:List (Int×Tok),vs=xs.map (fun p=>.int p.1 p.2)/\xs.map (·.1)=row)->
   R c Z' ((z,.obj (zO TI TO .none))::(TO,.obj (prO .none .none))::(i1,.obj (rgO ((0:Nat):Int) (4 - ((0:Nat):Int))))::(C,.ns [(sGr,.ref l)])::led) s'->s'.gens[g]? = some (.fresh (.func t06.1.body (gE f6.fd f6.a C)))->Q (.ref z) s') :
  wpAny c.M A (eval (itOf dF) (fE fd t18.1 a S [])) Q noE s:=by
 refine aa (bD (Ev.bui (x:=⟨⟨[122,105,112]⟩⟩) (Q:=fun d l=>d = .val (.type "zip")/\l=led) ok rfl rfl rfl rfl B.zip'.1 B.zip'.2 rfl ⟨rfl,rfl⟩ Z s r) fun Z1 led₁ s₁ v d h1 r1 a1 q=>?_)
 obtain ⟨rfl,rfl⟩:=q
 refine a1.val' ?_
 refine callWith_of (P:=fun h=>Keep c h (.type "zip")) rfl (fun u_ x=>x) (jf rfl (wpAny_items_cons ?_))
 refine bD (Ev.ca (Q:=fun d l=>d = .rng 0 4/\l=led₁) rfl rfl (Ev.bui ok rfl rfl rfl rfl B.range'.1 B.range'.2 rfl (Evs.co rfl (Ev.cn 4 (Evs.ni ⟨.typ,Cl.rng1 ⟨rfl,rfl⟩⟩)))) Z1 s₁ r1) fun Z₂ led₂ s₂ v d h2 r2 a2 q=>?_
 obtain ⟨rfl,rfl⟩:=q
 induction a2 using AV.eRng with
 | @rng q t u v eq=>
  refine wpAny_items_cons ?_
  refine aa (bD (Ev.glo (x:=sGrI) (Q:=fun d l=>d = .val (.ref f6.a)/\l=led₂) ok rfl rfl rfl f6.g rfl ⟨rfl,rfl⟩ Z₂ s₂ r2) fun Z3 led3 s₃ v3 d h3 r3 a3 q3=>?_)
  obtain ⟨rfl,rfl⟩:=q3
  refine a3.val' ?_
  refine callWith_of (P:=fun h=>Keep c h (.ref f6.a)) rfl (fun u_ x=>x) (jf rfl (jd (Evs.co (Q:=fun ds l=>ds=[.lst (row.map .int)]/\l=led3) rfl (Ev.lo (x:=mA) rfl rfl hm hx rfl (Evs.ni ⟨rfl,rfl⟩)) Z3 s₃ r3) fun Z4 led4 s₄ ws ds h4 r4 a4 q4=>?_))
  obtain ⟨rfl,rfl⟩:=q4
  refine ⟨f6.F.kpr Z4 s₄ _ r4 .val,?_⟩
  refine a4.one' fun v a4=>?_
  induction a4 using AV.eLst with
  | @lst l vs nn el av=>
   refine wpAny_call (genCall hc ok hroom f6.F r4 fun C ga g nm qn Z5 s₅ h5 r5 e5 g5=>?_)
   refine wpAny_items_nil ⟨Kpr.typ Z5 s₅ _ r5 .val,?_⟩
   have z25:=(h3.trans h4).trans h5
   refine callZip r5 (z25 _ _ eq) e5 fun z TI TO i1 Z6 s6 h6 e6 r6 g6=>?_
   refine h z TI TO i1 C ga g nm qn l vs nn Z6 s6 (((h1.trans h2).trans z25).trans h6) e6 (h6 _ _ e5) (h6 _ _ (h5 _ _ el)) av.ints r6 (by refine rP g6 ?_; exact g5)
end
end
section
noncomputable def scOf:Expr->Scope
 | .ListComp _ _ sc _=>sc
 | _=>{ kind:=.function,names:=[],isGenerator:=false,isCoroutine:=false }
section
variable {c:Cst}{A:Around}{led:Led}{Q:D->Led->Prop}
theorem szGood (hc:c.gf=none) (ok:c.Ok) (B:Bui c) (hh:A.handled=none) (hroom:A.in1.depth<recursionLimit) (hroom0:A.depth<recursionLimit) (cmx:∃ t,c.mg sCM=some (.int 127 t)) (f6:Def c t06.1 sGrI){fd:FuncData}{a S:Addr}{m:List (Str×D)}{row:List Int} (hm:At led S (.ns m)) (hx:m.lookup mA=some (.lst (row.map .int)))
  (h4:row.length=4) (h0:row[0]?≠some 0) (h:Q (.lst ((eU row 4 .start).map .int)) led):Ev c A (fE fd t18.1 a S []) dF led Q:=fun Z s r=>by
 refine (?_:wpAny c.M A (comprehension _ _ _ _ (newList []) false (eval (itOf dF) (fE fd t18.1 a S [])) none) _ _ _)
 refine wpAny_comprehension_free rfl (fun u_=>rfl) (cl:=[]) rfl rfl (by decide) (szIter hc ok B hroom0 f6 hm hx r fun z TI TO i1 C ga g nm qn l vs nn Z' s' hz e1 e2 e3 hvs r' hg=>?_)
 refine wpAny_pyIter_zip (r'.objAt .h) ?_
 refine bp ?_
 have r3:=r'.push (o:=ci [] 0) (x:=.lst []) (.lst .nil)
 refine jS (c:=c.fix s'.gens) (R.fix r3) fun C2 s₄ r4=>?_
 obtain ⟨r4,hgs⟩:=R.unfix hc r4
 have r5:=r4.weak (.cons (.t (.t .h)) (.cons (.t (.t .h)) (.cons (.t (.t .h)) (.cons .h (.cons .h .rest)))))
 have start:=zipComp (p1:=⟨161,16,161,20⟩) (p2:=⟨161,25,161,29⟩) (p3:=⟨161,31,161,35⟩) (p4:=⟨161,25,161,35⟩) (pos:=⟨161,15,161,79⟩) (k1:=0) (iter:=itOf dF) (scope:=scOf dF) (env:=dl (scOf dF) [] C2 (fE fd t18.1 a S [])) (a:=f6.a) (fd:=f6.fd) (RR:=compPost c.M A noE none (P1 c Z Q) (.ref s'.heap.objs.size) C2) hc ok hh hroom cmx hvs h4 h0 e1 e2 e3 rfl rfl rfl rfl rfl
  (fun Z6 s6 h6 r6=>?_) r5 (by refine rP hgs ?_; exact hg)
 ·exact codeAny_compStart_list start (wpAny_pyIter_zip (r5.objAt .h) start)
 ·obtain ⟨mv,hn,_⟩:=r6.ns .h
  refine ⟨mv,hn,fun h' hs'=>?_⟩
  have r7:=r6.lose (t:=s6.toks) .h hs'.extBut
  obtain ⟨o,ho,hz3,r8⟩:=r7.freeze .h
  induction ho using Ch.On.eLst with
  | lst av=>exact ⟨_,led,_,(hz.trans h6).trans hz3,r8,.lst HP.sf (av.mono hz3),h⟩
end
end
section
theorem sub_VE2:isSubtype (.type "ValueError") (.type "ValueError")=pure true:=by first | rfl | kernel_rfl
theorem sub_VE3:isSubtype (.type ((Manifest.find? "ValueError").elim "type" fun x=>x.metatype)) (.type "tuple")=pure false:=by first | rfl | kernel_rfl
section
variable {c:Cst}{A:Around}{Z:HP}{led led':Led}{s:Shared}{Q:D->Led->Prop}{outer:List Env}
theorem oh {env env0:Env}{L e:Addr}{f:Value}{Q:Unit->Shared->Prop}{E:Value->Shared->Prop} (he:env.frame=env0.frame) (hfr:A.frames=some (env0::outer)) (F:Frs led (env0::outer)) (hf:env0.frame=some L) (x:Exc1 c Z led e f s) (h:∀ s' f',Exc1 c Z led e f' s'->Q () s') :
  wpAny c.M A (noteFrame (.ref e) env) Q E s:=by
 have e0:noteFrame (.ref e) env=noteFrame (.ref e) env0:=by unfold noteFrame PySem.frameOf; exact rP he rfl
 refine rP e0 ?_
 have x':=x
 obtain ⟨r,hO,oe,vs,T,oT,ts,he,hc,hd,h1,hTe,hT,eT,hdT,h3⟩:=x'
 unfold noteFrame
 simp only [hf]
 refine aa (aU he hd h1 ?_)
 refine rP (aY (show (Value.ref T != Value.none)=true from by simp)) ?_
 refine aa (aU eT hdT h3 ?_)
 by_cases q:(f == rawInt L)=true
 ·refine rP (aY q) ?_; exact ab (h s f x)
 ·refine rP (aX q) ?_
  refine aa (wpAny_setField eT hdT (Array.getElem?_eq_some_iff.mp h3).1 ?_)
  have r2:=r.but (h':=s.heap.update T (Obj.mapFields (·.setIfInBounds 3 Value.none))) (t:=s.toks) fun a o ha e=>by refine rP (Heap.get?_update_other _ _ (Ne.symm (hT.ne ha))) ?_; exact e
  exact jn hfr F hf r2 hO (by refine rP (Heap.get?_update_other _ _ hTe) ?_; exact he) hc hd (Array.getElem?_eq_some_iff.mp h1).1 fun s' x'=>h s' _ x'
theorem Exc1.lose {e a:Addr}{f:Value}{x:Ch} (h:Exc1 c Z led e f s) (u:Take led a x led'){h':Heap}{t:Tok} (hs:Heap.ExtBut a s.heap h'):Exc1 c Z led' e f { s with heap:=h',toks:=t }:=by
 obtain ⟨r,o1,oe,vs,T,oT,ts,h1,h2,h3,h4,h5,o2,h6,h7,h8⟩:=h
 have ha:a∈led.map (·.1):=bc (f:=(·.1)) u.at.mem
 have sub:∀ b,b∈led'.map (·.1)->b∈led.map (·.1):=fun b hb=>(u.sub.map _).subset hb
 exact ⟨r.lose u hs,⟨o1.1,fun q=>o1.2 (sub _ q)⟩,oe,vs,T,oT,ts,hs _ _ (Ne.symm (o1.ne (.inr ha))) h1,h2,h3,h4,h5,⟨o2.1,fun q=>o2.2 (sub _ q)⟩,hs _ _ (Ne.symm (o2.ne (.inr ha))) h6,h7,h8⟩
theorem Exc1.put {e:Addr}{f:Value} (h:Exc1 c Z led e f s):∃ T oe oT,R c Z ((e,.obj oe)::(T,.obj oT)::led) s/\∀ Z' s',R c Z' ((e,.obj oe)::(T,.obj oT)::led) s'->Exc1 c Z' led e f s':=by
 obtain ⟨r,o1,oe,vs,T,oT,ts,h1,h2,h3,h4,h5,o2,h6,h7,h8⟩:=h
 have fe:oe.isFreed=false:=Obj.isFreed_of_fields h3
 have fT:oT.isFreed=false:=Obj.isFreed_of_fields h7
 have r1:=r.put (x:=.obj oT) h6 (.obj fT) o2.1 o2.2
 have r2:=r1.put (x:=.obj oe) h1 (.obj fe) o1.1 (by refine rP aA (rP (propext (List.mem_cons)) ?_); exact fun q=>q.elim (fun q=>h5 q.symm) o1.2)
 refine ⟨T,oe,oT,r2,fun Z' s' r'=>?_⟩
 have n:=r'.nod
 rw [aA,aA,List.nodup_cons,List.nodup_cons] at n
 exact ⟨(r'.take .h).take .h,⟨r'.dis _ (.head _),fun q=>n.1 (.tail _ q)⟩,oe,vs,T,oT,ts,r'.objAt .h,h2,h3,h4,h5,⟨r'.dis _ (.tail _ (.head _)),n.2.1⟩,r'.objAt (.t .h),h7,h8⟩
theorem oj {w:World}:∀ xs:List (Int×Tok),AVs w Z (xs.map fun p=>.int p.1 p.2) ((xs.map (·.1)).map .int)
 | []=>.nil
 | p::xs=>.cons .int (oj xs)
theorem om {elt tgt iter:Expr}{scope:Scope}{pos:Pos}{it acc:Value}{env:Env}{RR:Result->Shared->Prop}
  (h:wpAny c.M A (pyNext it) (fun u_ u_=>False) (fun x s₁=>wpAny c.M A (noteFrame x env) (fun u_ s₂=>RR (.error x) s₂) (fun u_ u_=>False) s₁) s):codeAny c.M A (.compLoop (.ListComp elt [⟨tgt,iter,[],0⟩] scope pos) 0 it acc env) RR s:=by
 refine codeAny_loop rfl (fun u_ s'=>s'=s) (fun n s' hI=>?_) 0 rfl
 subst hI
 refine (?_:wpAny _ A ((compTurn (.ListComp elt [⟨tgt,iter,[],0⟩] scope pos) 0 it acc env).onRaise (fun x=>do noteFrame x _; theTreesLotGoes x)) _ _ s')
 refine wpAny_noted ?_
 refine rP (compTurn_list1 _ _ _ _ _ _ _ _) ?_
 exact aa (wpAny_standAt (aa (ac h (fun u_ u_ f=>f.elim) (fun x s₁ hx=>ac hx (fun u_ u_ q=>q) fun u_ u_ f=>f.elim))))
theorem szBad (hc:c.gf=none) (ok:c.Ok) (B:Bui c) (hh:A.handled=none) (hroom:A.in1.depth<recursionLimit) (hroom0:A.depth<recursionLimit) (cmx:∃ t,c.mg sCM=some (.int 127 t)) (bv:c.mg sVE=none/\c.mb sVE=some (.type "ValueError")) (f6:Def c t06.1 sGrI){fd:FuncData}{a S:Addr}{m:List (Str×D)}{row:List Int}
  (hfr:A.frames=some (fE fd t18.1 a S []::outer)) (F:Frs led outer) (hm:At led S (.ns m)) (hx:m.lookup mA=some (.lst ((0::row).map .int))) (r:R c Z led s) :
  wpAny c.M A (eval dF (fE fd t18.1 a S [])) (fun u_ u_=>False) (fun x s'=>∃ e Z' f,x = .ref e/\Z.le Z'/\Exc1 c Z' led e f s') s:=by
 refine (?_:wpAny c.M A (comprehension _ _ _ _ (newList []) false (eval (itOf dF) (fE fd t18.1 a S [])) none) _ _ _)
 refine wpAny_comprehension_free rfl (fun u_=>rfl) (cl:=[]) rfl rfl (by decide) (ac (szIter (Q:=_) hc ok B hroom0 f6 hm hx r fun z TI TO i1 C ga g nm qn l vs nn Z' s' hz e1 e2 e3 hvs r' hg=>?_) (fun u_ u_ q=>q) noE.im)
 refine wpAny_pyIter_zip (r'.objAt .h) ?_
 refine bp ?_
 have r3:=r'.push (o:=ci [] 0) (x:=.lst []) (.lst .nil)
 refine ac (jS (c:=c.fix s'.gens) (R.fix r3) (Q:=_) fun C2 s₄ r4=>?_) (fun u_ u_ q=>q) noE.im
 obtain ⟨r4,hgs⟩:=R.unfix hc r4
 have r5:=r4.weak (.cons (.t (.t .h)) (.cons (.t (.t .h)) (.cons (.t (.t .h)) (.cons .h (.cons .h .rest)))))
 obtain ⟨xs,rfl,hxs⟩:=hvs
 have av:∀ Z',AVs c.w Z' (xs.map fun p=>.int p.1 p.2) ((0::row).map .int):=fun Z'=>by refine rQ hxs ?_; exact oj xs
 have F2:Frs ((C2,.ns [])::(s'.heap.objs.size,.lst [])::led) (fE fd t18.1 a S []::outer):=Frs.cons (fun q=>by cases q) rfl (.t (.t hm)) F.up.up
 have start:codeAny c.M A (.compLoop dF 0 (.ref z) (.ref s'.heap.objs.size) (dl (scOf dF) [] C2 (fE fd t18.1 a S []))) (compPost c.M A (fun x s'=>∃ e Z' f,x = .ref e/\Z.le Z'/\Exc1 c Z' led e f s') none (fun u_ u_=>False) (.ref s'.heap.objs.size) C2) s₄:=by
  refine om (zipX (glE:=(C2,.ns [])::(s'.heap.objs.size,.lst [])::led) e1 r5 (fun s₅ t r₅ g₅=>?_) fun e Z6 s6 hz₆ x6=>?_)
  ·have r₆:=r₅.weak (.cons (.t (.t (.t (.t (.t .h))))) (.cons .h (.drop (.drop .rest))))
   refine ki (A:=A.in1) hc ok hh hroom hfr F2.up cmx bv e3 (av _) e2 r₆ (by refine rP g₅ (rP hgs ?_); exact hg) fun e Z7 s7 hz7 x7=>⟨e,Z7,rfl,hz7,x7.weak (.drop .rest)⟩
  ·refine oh (env0:=fE fd t18.1 a S []) rfl hfr F2 rfl x6 fun s7 f₇ x7=>?_
   obtain ⟨mv,hn,_⟩:=x7.1.ns .h
   refine ⟨mv,hn,fun h' hs' cenv u_=>passes ((x7.lose (t:=s7.toks) .h hs'.extBut).weak (.drop .rest)) fun s8 x8=>⟨e,Z6,_,rfl,hz.trans hz₆,x8⟩⟩
 exact codeAny_compStart_list start (wpAny_pyIter_zip (r5.objAt .h) start)
end
end
section
set_option tactic.hygienic true
theorem eI (p:Nat->Bool) (n:Nat):((List.range n).filter p).length=sm (fun u=>if p u then 1 else 0) n:=by
 induction n with
 | zero=>rfl
 | succ n ih=>
  refine rP List.range_succ (rP (List.filter_append _ _) (rP aH (rP ih (rP (bJ _ _) ?_))))
  cases h:p n <;> simp -iota [List.filter,h]
theorem dq (p:Nat->Bool) (f:Nat->Nat) (n:Nat):(((List.range n).filter p).map f).sum=sm (fun u=>if p u then f u else 0) n:=by
 induction n with
 | zero=>rfl
 | succ n ih=>
  refine rP List.range_succ (rP (List.filter_append _ _) (rP aI (rP List.sum_append_nat (rP ih (rP (bJ _ _) ?_)))))
  cases h:p n <;> simp -iota [List.filter,h]
theorem lm (f:Nat->Nat) (c m:Nat):sm f (c+m)=sm f c+sm (fun x=>f (c+x)) m:=by
 induction m with
 | zero=>rfl
 | succ m ih=>refine rP (Nat.add_succ _ _) (rP (bJ _ _) (rP ih (rP (bJ _ _) ?_))); exact Nat.add_assoc _ _ _
theorem fX (l:List Nat):(l.map fun x:Nat=>(x:Int)).sum=((l.sum:Nat):Int):=by
 induction l with
 | nil=>rfl
 | cons a l ih=>refine rP aA (rP List.sum_cons (rP List.sum_cons (rP ih ?_))); rfl
section
variable {β:Type}
theorem oo {l:List (Str×β)}{x:Str}{d:β} (h:l.lookup x=some d):(x,d)∈l:=by
 induction l with
 | nil=>exact nS h
 | cons p l ih=>
  obtain ⟨a,b⟩:=p
  rw [aS] at h
  by_cases q:x=a
  ·subst q; rw [bq] at h; cases h; exact .head _
  ·rw [show (x == a)=false from beq_eq_false_iff_ne.mpr q] at h; exact .tail _ (ih h)
theorem look_none {l:List (Str×β)}{x:Str}:l.lookup x=none↔x ∉ l.map (·.1):=by
 induction l with
 | nil=>simp -iota
 | cons p l ih=>
  obtain ⟨a,b⟩:=p
  refine rP aS (rP aA (rP (propext (List.mem_cons)) ?_))
  by_cases q:x=a
  ·subst q; simp -iota
  ·refine rP (show (x == a)=false from beq_eq_false_iff_ne.mpr q) ?_
   simp -iota only [q,false_or]; exact ih
theorem fj {l:List (Str×β)} (hn:(l.map (·.1)).Nodup){x:Str}{d:β} (h:(x,d)∈l):l.lookup x=some d:=by
 induction l with
 | nil=>exact mN h
 | cons p l ih=>
  obtain ⟨a,b⟩:=p
  rw [aA,List.nodup_cons] at hn
  refine rP aS ?_
  rcases List.mem_cons.mp h with e | e
  ·cases e; exact rP (bq _) rfl
  ·have:x≠a:=fun q=>hn.1 (by subst q; exact bc (f:=(·.1)) e)
   refine rP (show (x == a)=false from beq_eq_false_iff_ne.mpr this) ?_; exact ih hn.2 e
noncomputable def jP (l:List (Str×β)) (k:Str) (d:β):List (Str×β):=if l.any (fun p=>p.1 == k) then l.map (fun p=>if p.1 == k then (p.1,d) else p) else l++[(k,d)]
theorem any_key {l:List (Str×β)}{k:Str}:l.any (fun p=>p.1 == k)=true↔k∈l.map (·.1):=by
 refine rP (propext (List.any_eq_true)) (rP (propext (List.mem_map)) ?_)
 exact ⟨fun ⟨p,h1,h2⟩=>⟨p,h1,eq_of_beq h2⟩,fun ⟨p,h1,h2⟩=>⟨p,h1,by exact rP h2 (rP (bq _) rfl)⟩⟩
theorem ei (l:List (Str×β)) (k:Str) (d:β):(jP l k d).map (·.1)=if k∈l.map (·.1) then l.map (·.1) else l.map (·.1)++[k]:=by
 unfold jP
 by_cases h:k∈l.map (·.1)
 ·refine rP (aY (any_key.mpr h)) (rP (aY h) (rP aG ?_))
  refine aP fun p u_=>?_
  refine (?_:(if (p.1 == k)=true then (p.1,d) else p).1=p.1)
  split <;> rfl
 ·refine rP (aX (fun q=>h (any_key.mp q))) (rP (aX h) (rP aI ?_)); rfl
theorem fY (l:List (Str×β)) (k:Str) (d:β) (x:Str):(jP l k d).lookup x=if x=k then some d else l.lookup x:=by
 unfold jP
 by_cases h:k∈l.map (·.1)
 ·refine rP (aY (any_key.mpr h)) ?_
  have:∀ l:List (Str×β),(l.map (fun p=>if p.1 == k then (p.1,d) else p)).lookup x=(l.lookup x).map fun b=>if x=k then d else b:=by
   intro l
   induction l with
   | nil=>rfl
   | cons p l ih=>
    obtain ⟨a,b⟩:=p
    rw [aA,aS]
    by_cases q:a=k
    ·subst q
     simp -iota only [bq,if_true,aS]
     by_cases r:x=a
     ·subst r; simp
     ·refine rP (show (x == a)=false from beq_eq_false_iff_ne.mpr r) ?_; exact ih
    ·simp -iota only [beq_eq_false_iff_ne.mpr q,Bool.false_eq_true,if_false,aS]
     by_cases r:x=a
     ·subst r; simp [q]
     ·refine rP (show (x == a)=false from beq_eq_false_iff_ne.mpr r) ?_; exact ih
  refine rP (this _) ?_
  by_cases q:x=k
  ·subst q
   refine rP (aY rfl) ?_
   cases e:l.lookup x with
   | none=>exact absurd h (look_none.mp e)
   | some b=>simp -iota
  ·refine rP (aX q) ?_; simp -iota [q]
 ·refine rP (aX (fun q=>h (any_key.mp q))) (rP List.lookup_append ?_)
  by_cases q:x=k
  ·subst q
   refine rP (look_none.mpr h) (rP (aY rfl) ?_); simp -iota
  ·refine rP (aX q) (rP aS (rP (show (x == k)=false from beq_eq_false_iff_ne.mpr q) ?_)); simp
theorem ko {l:List (Str×β)} (h:(l.map (·.1)).Nodup) (k:Str) (d:β):((jP l k d).map (·.1)).Nodup:=by
 refine rP (ei _ _ _) ?_
 split
 ·exact h
 ·rename_i q
  refine rP (propext (List.nodup_append)) ?_
  refine ⟨h,by simp,fun a ha b hb=>?_⟩
  rw [List.mem_singleton] at hb
  subst hb
  exact fun e=>q (e ▸ ha)
theorem iF {l:List (Str×β)}{k x:Str}{d:β} (h:x∈(jP l k d).map (·.1)):x=k\/x∈l.map (·.1):=by
 rw [ei] at h
 split at h
 ·exact .inr h
 ·rw [List.mem_append,List.mem_singleton] at h
  exact h.elim .inr .inl
theorem ln:∀ (s:List (Str×β)) (acc:List (Str×β)),((acc++s).map (·.1)).Nodup->s.foldl (fun m p=>jP m p.1 p.2) acc=acc++s
 | [],acc,_=>by simp -iota
 | p::s,acc,h=>by
  refine rP List.foldl_cons ?_
  have h2:p.1 ∉ acc.map (·.1):=by
   rw [aI,List.nodup_append] at h
   exact fun q=>h.2.2 p.1 q p.1 (by simp -iota) rfl
  have e:jP acc p.1 p.2=acc++[p]:=by
   unfold jP
   exact rP (aX fun q=>h2 (any_key.mp q)) rfl
  refine rP e (rP (ln s (acc++[p]) (by rw [List.append_assoc]; exact h)) ?_)
  simp -iota
end
theorem iset_u (l:List (Str×Int)) (k:Str) (d:Int):ff l k d=jP l k d:=rfl
theorem bset_u (l:cZ) (k:Str) (d:Ent):bset l k d=jP l k d:=rfl
theorem dset_u (l:List (Str×D)) (k:Str) (d:D):fy l k d=jP l k d:=rfl
theorem dP {j k:Nat} (hj:j<4) (hk:k<4) (h:sg (gch j)=sg (gch k)):j=k:=by
 have a:∀ x:Nat,(sg x).cps.toList=[x]:=fun x=>rfl
 have e:gch j=gch k:=by have:=congrArg (fun s:Str=>s.cps.toList) h; simp -iota only [a] at this; exact (List.cons.inj this).1
 have:∀ j k:Fin 4,gch j=gch k->j=k:=by decide
 have:=this ⟨j,hj⟩ ⟨k,hk⟩ e
 exact congrArg Fin.val this
structure Cal (n:Nat) (f:Nat->Nat) (l:List (Str×Int)):Prop where
 nd:(l.map (·.1)).Nodup
 ks:∀ x∈l.map (·.1),∃ j,j<n/\x=sg (gch j)
 lk:∀ j,j<n->l.lookup (sg (gch j))=if f j=0 then none else some ((f j:Nat):Int)
noncomputable def mf (n:Nat) (f:Nat->Nat):List (Str×Int):=((List.range n).filter fun j=>decide (0<f j)).map fun j=>(sg (gch j),((f j:Nat):Int))
theorem cB {α γ:Type} (g:α->γ):∀ {l:List α},l.Nodup->(∀ x∈l,∀ y∈l,g x=g y->x=y)->(l.map g).Nodup
 | [],_,_=>List.nodup_nil
 | a::l,h,hi=>by
  rw [List.nodup_cons] at h
  refine rP aA (rP (propext (List.nodup_cons)) ?_)
  refine ⟨fun q=>?_,cB g h.2 fun x hx y hy=>hi x (.tail _ hx) y (.tail _ hy)⟩
  obtain ⟨b,hb,e⟩:=List.mem_map.mp q
  exact h.1 (hi b (.tail _ hb) a (.head _) e ▸ hb)
theorem de {α γ:Type} (g:α->γ):∀ {l:List α},(l.map g).Nodup->l.Nodup
 | [],_=>List.nodup_nil
 | a::l,h=>by
  rw [aA,List.nodup_cons] at h
  refine rP (propext (List.nodup_cons)) ?_
  exact ⟨fun q=>h.1 (bc q),de g h.2⟩
theorem bQ {n:Nat} (p:Nat->Bool):((List.range n).filter p).Nodup:=List.nodup_range.sublist List.filter_sublist
theorem canon_nd {n:Nat} (h4:n<=4) (f:Nat->Nat):((mf n f).map (·.1)).Nodup:=by
 unfold mf
 refine rP aG ?_
 refine cB _ (bQ _) fun x hx y hy e=>?_
 have:=List.mem_range.mp (List.mem_filter.mp hx).1
 have:=List.mem_range.mp (List.mem_filter.mp hy).1
 exact dP (by lia) (by exact nT this h4) e
theorem Cal.perm {n:Nat} (h4:n<=4){f:Nat->Nat}{l:List (Str×Int)} (c:Cal n f l):l.Perm (mf n f):=by
 refine (List.perm_ext_iff_of_nodup (de (·.1) c.nd) (de (·.1) (canon_nd h4 f))).mpr fun p=>?_
 obtain ⟨x,d⟩:=p
 unfold mf
 simp -iota only [List.mem_map,List.mem_filter,List.mem_range,decide_eq_true_eq]
 constructor
 ·intro h
  obtain ⟨j,hj,e⟩:=c.ks x (bc (f:=(·.1)) h)
  subst e
  have:=fj c.nd h
  rw [c.lk j hj] at this
  split at this
  ·exact nS this
  ·cases this; exact ⟨j,⟨hj,by lia⟩,rfl⟩
 ·rintro ⟨j,⟨hj,h0⟩,e⟩
  cases e
  exact oo (by exact rP (c.lk j hj) (rP (aX (by exact Nat.ne_of_gt h0)) rfl))
theorem lp {l m:List Int} (h:l.Perm m):l.sum=m.sum:=by
 induction h with
 | nil=>rfl
 | cons a _ ih=>exact rP List.sum_cons (rP List.sum_cons (rP ih rfl))
 | swap a b l=>simp -iota only [List.sum_cons]; lia
 | trans _ _ i1 i2=>exact i1.trans i2
theorem Cal.sum {n:Nat} (h4:n<=4){f:Nat->Nat}{l:List (Str×Int)} (c:Cal n f l):(l.map (·.2)).sum=((sm f n:Nat):Int):=by
 rw [lp ((c.perm h4).map (·.2))]
 unfold mf
 refine rP aG ?_
 have e:((·.2)∘fun j=>(sg (gch j),((f j:Nat):Int)):Nat->Int)=(fun x:Nat=>(x:Int))∘f:=rfl
 refine rP e (rQ aG (rP (fX _) (rP (dq _ _ _) ?_)))
 congr 1
 exact cu fun j u_=>by by_cases q:0<f j <;> simp -iota [q]; exact Nat.min_eq_right (aZ q)
theorem Cal.len {n:Nat} (h4:n<=4){f:Nat->Nat}{l:List (Str×Int)} (c:Cal n f l):l.length<=n:=by
 refine rP ((c.perm h4).length_eq) ?_
 unfold mf
 refine rP (am _) ?_
 exact Nat.le_trans (bi _ _) (by refine rP aM ?_; exact aC _)
theorem Cal.nil {n:Nat}{f:Nat->Nat} (h:∀ j,j<n->f j=0):Cal n f []:=⟨by simp,by simp,fun j hj=>by refine rP (h j hj) ?_; rfl⟩
theorem Cal.congr {n:Nat}{f g:Nat->Nat}{l:List (Str×Int)} (c:Cal n f l) (h:∀ j,j<n->f j=g j):Cal n g l:=⟨c.nd,c.ks,fun j hj=>by exact rP (c.lk j hj) (rP (h j hj) rfl)⟩
theorem Cal.set {n:Nat} (h4:n<=4){f:Nat->Nat}{l:List (Str×Int)} (c:Cal n f l){k:Nat} (hk:k<n){d:Nat} (hd:0<d):Cal n (fun j=>if j=k then d else f j) (ff l (sg (gch k)) d):=by
 refine rP (iset_u _ _ _) ?_
 refine ⟨ko c.nd _ _,fun x hx=>?_,fun j hj=>?_⟩
 ·rcases iF hx with e | e
  ·exact ⟨k,hk,e⟩
  ·exact c.ks x e
 ·refine rP (fY _ _ _ _) ?_
  by_cases q:j=k
  ·subst q; exact rP (aY rfl) (rP (aY rfl) (rP (aX (by exact Nat.ne_of_gt hd)) rfl))
  ·exact rP (aX (fun e=>q (dP (by exact nT hj h4) (by exact nT hk h4) e))) (rP (aX q) (rP (c.lk j hj) rfl))
theorem Cal.addC {n:Nat} (h4:n<=4){f g:Nat->Nat}{l m:List (Str×Int)} (c:Cal n f l) (d:Cal n g m):Cal n (fun j=>f j+g j) (addC l m):=by
 unfold Internal.addC
 have e:l.foldl (fun m p=>ff m p.1 p.2) []=l:=by
  have:=ln l [] (by simpa -iota using c.nd)
  rw [List.nil_append] at this
  exact this
 refine rP e ?_
 have key:∀ (s:List (Str×Int)) (t:List (Str×Int)),(s.map (·.1)).Nodup->(t.map (·.1)).Nodup->((s.foldl kY t).map (·.1)).Nodup/\(∀ x∈(s.foldl kY t).map (·.1),x∈s.map (·.1)\/x∈t.map (·.1))/\
   ∀ x,(s.foldl kY t).lookup x=match s.lookup x with | none=>t.lookup x | some d=>some ((t.lookup x).getD 0+d):=by
  intro s
  induction s with
  | nil=>intro t _ ht; exact ⟨ht,fun x hx=>.inr hx,fun x=>rfl⟩
  | cons p s ih=>
   intro t hs ht
   obtain ⟨a,b⟩:=p
   rw [aA,List.nodup_cons] at hs
   obtain ⟨i1,i2,i3⟩:=ih (kY t (a,b)) hs.2 (ko ht _ _)
   refine rP List.foldl_cons ?_
   refine ⟨i1,fun x hx=>?_,fun x=>?_⟩
   ·rcases i2 x hx with q | q
    ·exact .inl (.tail _ q)
    ·rcases iF q with r | r
     ·exact .inl (by refine rP r ?_; exact .head _)
     ·exact .inr r
   ·refine rP (i3 _) (rP aS ?_)
    refine (?_:(match s.lookup x with | none=>(jP t a ((t.lookup a).getD 0+b)).lookup x | some d=>some (((jP t a ((t.lookup a).getD 0+b)).lookup x).getD 0+d))=_)
    refine rP (fY _ _ _ _) ?_
    by_cases q:x=a
    ·subst q
     exact rP (look_none.mpr hs.1) (rP (bq _) (rP (aY rfl) rfl))
    ·exact rP (aX q) (rP (show (x == a)=false from beq_eq_false_iff_ne.mpr q) rfl)
 obtain ⟨k1,k2,k3⟩:=key m l d.nd c.nd
 refine ⟨k1,fun x hx=>?_,fun j hj=>?_⟩
 ·exact (k2 x hx).elim (d.ks x) (c.ks x)
 ·refine rP (k3 _) (rP (d.lk j hj) (rP (c.lk j hj) ?_))
  by_cases q:g j=0
  ·refine rP (aY q) (rP q ?_); rfl
  ·refine rP (aX q) (rP (aX (show ¬ f j+g j=0 by exact Nat.ne_of_gt (nT (bn q) (Nat.le_add_left _ _)))) ?_)
   by_cases r:f j=0
   ·refine rP (aY r) (rP r ?_); simp
   ·refine rP (aX r) ?_
    refine (?_:some (((f j:Nat):Int)+((g j:Nat):Int))=_)
    exact rQ (Int.natCast_add _ _) rfl
theorem Cal.callers {n:Nat} (h4:n<=4){p:Nat->Bool} (wf:Nat->Wo):∀ (R:List Nat) (m:List (Str×Int)),(∀ j∈R,j<n/\(wf j).ch=gch j)->Cal n (fun j=>if p j then 1 else 0) m->
  Cal n (fun j=>if p j || decide (j∈R) then 1 else 0) ((R.map wf).foldl (fun m w=>ff m (sg w.ch) 1) m):=by
 intro R
 induction R generalizing p with
 | nil=>intro m _ c; exact c.congr fun j u_=>by simp -iota
 | cons k R ih=>
  intro m h c
  obtain ⟨hk,e⟩:=h k (.head _)
  refine rP aA (rP List.foldl_cons (rP e ?_))
  have:=ih (p:=fun j=>p j || decide (j=k)) (ff m (sg (gch k)) 1) (fun j hj=>h j (.tail _ hj)) ((c.set h4 hk (d:=1) (by exact aC _)).congr fun j hj=>by
   by_cases q:j=k
   ·refine rP (aY q) ?_; simp -iota [q]
   ·refine rP (aX q) ?_; simp -iota [q])
  refine this.congr fun j u_=>?_
  simp -iota only [List.mem_cons,Bool.or_eq_true,decide_eq_true_eq,or_assoc]
end
section
set_option tactic.hygienic true
namespace Sys
variable (S:Sys)
noncomputable def prb (u j:Nat):Bool:=decide (S.came j<=u) && decide (0<S.rem u j)
noncomputable def act (t:Nat):List Nat:=(List.range S.n).filter fun k=>decide (S.came k<t) && decide (0<S.rem t k)
noncomputable def prs (t:Nat):List Nat:=(List.range S.n).filter fun k=>S.prb t k
noncomputable def new (t:Nat):List Nat:=(List.range S.n).filter fun k=>S.came k == t
noncomputable def wf (w0:Nat->Wo) (t:Nat):Nat->Wo:=t.rec w0 fun t r k=>if S.sv t k then bA (r k) else r k
noncomputable def nsv (t k:Nat):Nat:=sm (fun u=>if S.sv u k then 1 else 0) t
noncomputable def nwt (t k j:Nat):Nat:=sm (fun u=>if S.sv u k && (decide (j≠k) && S.prb u j) then 1 else 0) t
structure W0 (S:Sys) (w0:Nat->Wo):Prop where
 n:∀ k,k<S.n->(w0 k).n=S.work k
 ch:∀ k,k<S.n->(w0 k).ch=gch k
 ok:∀ k,k<S.n->(w0 k).f<=3/\(w0 k).r<=3
variable {S}{w0:Nat->Wo}{t:Nat}
theorem cP (k:Nat):S.wf w0 (t+1) k=if S.sv t k then bA (S.wf w0 t k) else S.wf w0 t k:=rfl
theorem W0.wn (h:W0 S w0){k:Nat} (hk:k<S.n):∀ t,(S.wf w0 t k).n=S.rem t k
 | 0=>h.n k hk
 | t+1=>by
  refine rP (cP _) (rP (bH _ _) ?_)
  have:=h.wn hk t
  split
  ·exact rP (fh _) (rP this rfl)
  ·refine rP this ?_; rfl
theorem W0.wc (h:W0 S w0){k:Nat} (hk:k<S.n):∀ t,(S.wf w0 t k).ch=gch k
 | 0=>h.ch k hk
 | t+1=>by
  refine rP (cP _) ?_
  have:=h.wc hk t
  split
  ·exact this
  ·exact this
theorem gch_ne (k:Nat):gch k≠32:=by
 by_cases h:k<4
 ·have:∀ k:Fin 4,gch k≠32:=by decide
  exact this ⟨k,h⟩
 ·unfold gch signs
  refine rP aF (rP (List.getElem?_eq_none (by simp; exact aZ h)) ?_); decide
theorem W0.wfr (h:W0 S w0){k:Nat} (hk:k<S.n):∀ t,(S.wf w0 t k).f<=3/\(S.wf w0 t k).r<=3
 | 0=>h.ok k hk
 | t+1=>by
  refine rP (cP _) ?_
  have:=h.wfr hk t
  split
  ·unfold bA; dsimp only; exact ⟨(nT (Nat.sub_le _ _) this.1),(nT (Nat.sub_le _ _) this.2)⟩
  ·exact this
theorem W0.wok (h:W0 S w0){k:Nat} (hk:k<S.n) (t:Nat):(S.wf w0 t k).Ok:=⟨by refine rP (h.wc hk _) ?_; exact gch_ne k,by have:=(h.wfr hk t).1; exact nD this rfl,by have:=(h.wfr hk t).2; exact nD this rfl⟩
theorem iG {k:Nat}:∀ {t:Nat},t<=S.came k->S.wf w0 t k=w0 k
 | 0,_=>rfl
 | t+1,h=>by
  refine rP (cP _) ?_
  have:S.sv t k=false:=by
   cases e:S.sv t k with
   | false=>rfl
   | true=>have:=(sv_iff.mp e).1.1; exact (aN h this).elim
  refine rP this (rP (aX (by simp)) ?_)
  exact iG (by exact nL h)
theorem prb_iff {u j:Nat}:S.prb u j=true↔S.pres u j:=by unfold prb pres; simp
theorem mem_prs {j:Nat}:j∈S.prs t↔j<S.n/\S.pres t j:=by
 unfold prs
 exact rP (propext (List.mem_filter)) (rP (propext (List.mem_range)) (rP (propext (prb_iff)) .rfl))
theorem mem_act {j:Nat}:j∈S.act t↔j<S.n/\S.came j<t/\0<S.rem t j:=by
 unfold act
 refine rP (propext (List.mem_filter)) (rP (propext (List.mem_range)) ?_); simp
theorem mem_new {j:Nat}:j∈S.new t↔j<S.n/\S.came j=t:=by
 unfold new
 refine rP (propext (List.mem_filter)) (rP (propext (List.mem_range)) ?_); simp
theorem lq (o:S.Ok):(S.act t++S.new t).Perm (S.prs t):=by
 refine (List.perm_ext_iff_of_nodup ?_ (bQ _)).mpr fun j=>?_
 ·refine rP (propext (List.nodup_append)) ?_
  refine ⟨bQ _,bQ _,fun a ha b hb e=>?_⟩
  subst e
  have:=mem_act.mp ha
  have:=mem_new.mp hb
  omega
 ·refine rP (propext (List.mem_append)) (rP (propext (mem_act)) (rP (propext (mem_new)) ?_))
  refine Iff.trans ?_ mem_prs.symm
  unfold pres
  constructor
  ·rintro (⟨h1,h2,h3⟩ | ⟨h1,h2⟩)
   ·exact ⟨h1,by exact nL h2,h3⟩
   ·exact ⟨h1,by exact aq h2,by refine rP (cH (by exact aq h2.symm)) ?_; exact o.w j h1⟩
  ·rintro ⟨h1,h2,h3⟩
   by_cases q:S.came j=t
   ·exact .inr ⟨h1,q⟩
   ·exact .inl ⟨h1,by exact ltNe2 h2 (by assumption),h3⟩
theorem oq:((S.act t).map (S.rem t)).sum=S.X (fun u_=>true) t:=by
 unfold act X
 refine rP (dq _ _ _) ?_
 refine cu fun j u_=>?_
 by_cases a:S.came j<t <;> by_cases b:0<S.rem t j <;> simp [a,b] <;> exact Nat.min_eq_right (aZ b)
theorem no_sv (h:S.prs t=[]){k:Nat} (hk:k<S.n):S.sv t k=false:=by
 cases e:S.sv t k with
 | false=>rfl
 | true=>
  have:k∈S.prs t:=mem_prs.mpr ⟨hk,(sv_iff.mp e).1⟩
  rw [h] at this; exact mN this
theorem iH (h:S.prs t=[]):S.act (t+1)=[]:=by
 refine List.eq_nil_iff_forall_not_mem.mpr fun j hj=>?_
 obtain ⟨h1,h2,h3⟩:=mem_act.mp hj
 have:j∈S.prs t:=mem_prs.mpr ⟨h1,by exact Nat.sub_le_of_le_add h2,by have:=gQ (S:=S) (t:=t) (k:=j); exact nT h3 this⟩
 rw [h] at this; exact mN this
theorem iI:S.act 0=[]:=List.eq_nil_iff_forall_not_mem.mpr fun j hj=>by have:=(mem_act.mp hj).2.1; lia
section
variable {k:Nat}{R:List Nat}
theorem dt (h:(S.prs t).Perm (k::R)){j:Nat}:j∈R↔j<S.n/\j≠k/\S.pres t j:=by
 have nd:(k::R).Nodup:=h.nodup_iff.mp (bQ _)
 rw [List.nodup_cons] at nd
 have m:j∈S.prs t↔j=k\/j∈R:=by exact rP (propext (h.mem_iff)) (rP (propext (List.mem_cons)) .rfl)
 rw [mem_prs] at m
 constructor
 ·intro q
  have:=m.mpr (.inr q)
  exact ⟨this.1,fun e=>nd.1 (e ▸ q),this.2⟩
 ·rintro ⟨h1,h2,h3⟩
  exact (m.mp ⟨h1,h3⟩).resolve_left h2
theorem rest_nd (h:(S.prs t).Perm (k::R)):(k::R).Nodup:=h.nodup_iff.mp (bQ _)
theorem bT (h:(S.prs t).Perm (k::R)):k<S.n/\S.pres t k:=mem_prs.mp (h.mem_iff.mpr (.head _))
theorem fZ (o:S.Ok) (h:(S.prs t).Perm (k::R)) (hs:S.sv t k=true){j:Nat} (hj:j∈R):S.sv t j=false:=by
 obtain ⟨h1,h2,h3⟩:=(dt h).mp hj
 cases e:S.sv t j with
 | false=>rfl
 | true=>exact absurd (iA o h1 (bT h).1 e hs) h2
theorem act_some (o:S.Ok) (h:(S.prs t).Perm (k::R)) (hs:S.sv t k=true):(S.act (t+1)).Perm (if S.rem (t+1) k=0 then R else k::R):=by
 have nd:=rest_nd h
 refine (List.perm_ext_iff_of_nodup (bQ _) ?_).mpr fun j=>?_
 ·split
  ·exact (List.nodup_cons.mp nd).2
  ·exact nd
 ·have hr:j∈R->S.rem (t+1) j=S.rem t j:=fun q=>by refine rP (bH _ _) (rP (fZ o h hs q) ?_); rfl
  refine Iff.trans mem_act ?_
  constructor
  ·rintro ⟨h1,h2,h3⟩
   by_cases e:j=k
   ·subst e; refine rP (aX (by exact Nat.ne_of_gt h3)) ?_; exact .head _
   ·have q:j∈R:=(dt h).mpr ⟨h1,e,by exact Nat.sub_le_of_le_add h2,by have:=gQ (S:=S) (t:=t) (k:=j); exact nT h3 this⟩
    split
    ·exact q
    ·exact .tail _ q
  ·intro q
   have fr:j∈R->j<S.n/\S.came j<t+1/\0<S.rem (t+1) j:=fun q=>by
    obtain ⟨h1,h2,h3⟩:=(dt h).mp q
    refine rP (hr q) ?_
    exact ⟨h1,by have:=h3.1; exact aB this,h3.2⟩
   split at q
   ·exact fr q
   ·rename_i hz
    rcases List.mem_cons.mp q with e | e
    ·subst e
     obtain ⟨h1,h2⟩:=bT h
     exact ⟨h1,by have:=h2.1; exact aB this,by exact bn hz⟩
    ·exact fr e
theorem rest_len (h:(S.prs t).Perm (k::R)):R.length=sm (fun j=>if decide (j≠k) && S.prb t j then 1 else 0) S.n:=by
 obtain ⟨h1,h2⟩:=bT h
 have a:(S.prs t).length=sm (fun j=>if S.prb t j then 1 else 0) S.n:=eI _ _
 rw [h.length_eq,aJ] at a
 have b:=nH (f:=fun j=>if decide (j≠k) && S.prb t j then 1 else 0) (g:=fun j=>if S.prb t j then 1 else 0) h1 (fun j u_ q=>by simp [q]) (by simp [prb_iff.mpr h2])
 lia
end
structure EntInv (S:Sys) (e:Nat->Nat) (t k:Nat) (x:Ent):Prop where
 cc:x.cc=if S.rem t k=0 then 1 else 0
 nc:x.nc=((S.nsv t k:Nat):Int)
 tt:x.tt=((sm (S.nwt t k) S.n:Nat):Int)
 ct:x.ct=if S.rem t k=0 then ((e k:Nat):Int) else 0
 cal:Cal S.n (S.nwt t k) x.by'
structure BookInv (S:Sys) (e:Nat->Nat) (t:Nat) (b:cZ):Prop where
 nd:(b.map (·.1)).Nodup
 ks:∀ x∈b.map (·.1),∃ j,j<S.n/\x=sg (gch j)
 lk:∀ k,k<S.n->(sg (gch k)∈b.map (·.1)↔0<S.nsv t k)
 en:∀ k,k<S.n->EntInv S e t k (old b (sg (gch k)))
theorem EntInv.idle {e:Nat->Nat}{k:Nat}{x:Ent} (h:EntInv S e t k x) (hs:S.sv t k=false):EntInv S e (t+1) k x:=by
 have r:S.rem (t+1) k=S.rem t k:=by refine rP (bH _ _) (rP hs ?_); rfl
 have n:S.nsv (t+1) k=S.nsv t k:=by unfold nsv; refine rP (bJ _ _) (rP hs ?_); rfl
 have w:∀ j,S.nwt (t+1) k j=S.nwt t k j:=fun j=>by unfold nwt; refine rP (bJ _ _) (rP hs ?_); rfl
 have w2:S.nwt (t+1) k=S.nwt t k:=funext w
 exact ⟨by refine rP r ?_; exact h.cc,by refine rP n ?_; exact h.nc,by refine rP w2 ?_; exact h.tt,by refine rP r ?_; exact h.ct,by refine rP w2 ?_; exact h.cal⟩
theorem ls {k:Nat} (hs:S.sv t k=false):S.nsv (t+1) k=S.nsv t k:=by unfold nsv; refine rP (bJ _ _) (rP hs ?_); rfl
theorem BookInv.zero (o:S.Ok){e:Nat->Nat}:BookInv S e 0 []:=by
 refine ⟨by simp,by simp,fun k u_=>⟨by simp,fun h=>absurd h (by unfold nsv; exact Nat.lt_irrefl 0)⟩,fun k hk=>⟨?_,rfl,?_,?_,Cal.nil fun j u_=>rfl⟩⟩
 ·refine rP (aX (by have:=o.w k hk; rw [lh]; exact Nat.ne_of_gt this)) ?_; rfl
 ·have:sm (S.nwt 0 k) S.n=0:=sm_zero.mpr fun j u_=>rfl
  refine rP this ?_; rfl
 ·refine rP (aX (by have:=o.w k hk; rw [lh]; exact Nat.ne_of_gt this)) ?_; rfl
theorem BookInv.none {e:Nat->Nat}{b:cZ} (B:BookInv S e t b) (h:S.prs t=[]):BookInv S e (t+1) b:=
 ⟨B.nd,B.ks,fun k hk=>by refine rP (ls (no_sv h hk)) ?_; exact B.lk k hk,fun k hk=>(B.en k hk).idle (no_sv h hk)⟩
theorem Wo_sg (w:Wo):(w.s == sg w.ch)=decide (w.n=0):=by
 by_cases h:w.n=0
 ·have a:w.f=0:=by unfold Wo.n at h; exact Nat.le_antisymm (nT (aD _ _) (aq h)) (aO _)
  have b:w.r=0:=by unfold Wo.n at h; exact Nat.le_antisymm (nT (Nat.le_add_left _ _) (aq h)) (aO _)
  refine rP (be h) ?_
  have:w.s=sg w.ch:=by unfold Wo.s sg; exact rP a (rP b rfl)
  refine rP this ?_; exact bq _
 ·refine rP (bf h) ?_
  refine beq_eq_false_iff_ne.mpr fun e=>h ?_
  have:=congrArg Str.length e
  unfold Wo.s sg at this
  rw [bI,bI] at this
  unfold Wo.n; lia
theorem BookInv.some (o:S.Ok) (h4:S.n<=4) (hw:W0 S w0){e:Nat->Nat} (E:S.End e){b:cZ} (B:BookInv S e t b){k:Nat}{R:List Nat} (h:(S.prs t).Perm (k::R)) (hs:S.sv t k=true) :
  BookInv S e (t+1) (jA b t (bA (S.wf w0 t k)) (R.map (S.wf w0 t))):=by
 obtain ⟨hk,hp⟩:=bT h
 have ech:(bA (S.wf w0 t k)).ch=gch k:=hw.wc hk t
 have esn:(bA (S.wf w0 t k)).n=S.rem (t+1) k:=by refine rP (fh _) (rP (hw.wn hk _) (rP (bH _ _) (rP hs ?_))); rfl
 have oth:∀ j,j<S.n->j≠k->S.sv t j=false:=fun j hj q=>by
  cases f:S.sv t j with
  | false=>rfl
  | true=>exact absurd (iA o hj hk f hs) q
 have nsk:S.nsv (t+1) k=S.nsv t k+1:=by unfold nsv; refine rP (bJ _ _) (rP hs ?_); rfl
 unfold jA
 refine rP ech (rP (bset_u _ _ _) ?_)
 refine ⟨ko B.nd _ _,fun x hx=>?_,fun j hj=>?_,fun j hj=>?_⟩
 ·rcases iF hx with q | q
  ·exact ⟨k,hk,q⟩
  ·exact B.ks x q
 ·by_cases q:j=k
  ·subst q
   refine rP nsk ?_
   refine ⟨fun u_=>by exact Nat.le_add_left _ _,fun u_=>?_⟩
   refine rP (ei _ _ _) ?_
   split
   ·assumption
   ·simp
  ·refine rP (ls (oth j hj q)) (rQ (propext (B.lk j hj)) (rP (ei _ _ _) ?_))
   split
   ·rfl
   ·refine rP (propext (List.mem_append)) (rP (propext (List.mem_singleton)) ?_)
    exact ⟨fun z=>z.resolve_right fun z=>q (dP (by exact nT hj h4) (by exact nT hk h4) z),.inl⟩
 ·have lk:old (jP b (sg (gch k)) ((old b (sg (gch k))).add (newE (bA (S.wf w0 t k)) (R.map (S.wf w0 t)) t))) (sg (gch j))=if j=k then (old b (sg (gch k))).add (newE (bA (S.wf w0 t k)) (R.map (S.wf w0 t)) t) else old b (sg (gch j)):=by
   unfold old
   refine rP (fY _ _ _ _) ?_
   by_cases q:j=k
   ·subst q; refine rP (aY rfl) (rP (aY rfl) ?_); rfl
   ·exact rP (aX (fun z=>q (dP (by exact nT hj h4) (by exact nT hk h4) z))) (rP (aX q) rfl)
  refine rP lk ?_
  by_cases q:j=k
  ·subst q
   refine rP (aY rfl) ?_
   have I:=B.en j hj
   have r0:¬ S.rem t j=0:=by have:=hp.2; exact Nat.ne_of_gt this
   have nw:∀ i,S.nwt (t+1) j i=S.nwt t j i+if decide (i≠j) && S.prb t i then 1 else 0:=fun i=>by
    refine (?_:sm _ (t+1)=_)
    refine rP (bJ _ _) (rP hs (rP (Bool.true_and _) ?_)); rfl
   have over:((bA (S.wf w0 t j)).s == sg (bA (S.wf w0 t j)).ch)=decide (S.rem (t+1) j=0):=by exact rP (Wo_sg _) (rP esn rfl)
   refine ⟨?_,?_,?_,?_,?_⟩
   ·refine (?_:(newE _ _ _).cc+(old b _).cc=_)
    refine rP I.cc (rP (aX r0) ?_)
    refine (?_:(if ((bA (S.wf w0 t j)).s == sg (bA (S.wf w0 t j)).ch)=true then (1:Int) else 0)+0=_)
    refine rP over ?_
    by_cases z:S.rem (t+1) j=0 <;> simp [z]
   ·refine (?_:(1:Int)+(old b _).nc=_)
    refine rP I.nc (rP nsk ?_); exact Int.add_comm _ _
   ·refine (?_:((R.map (S.wf w0 t)).length:Int)+(old b _).tt=_)
    refine rP I.tt (rP (am _) (rP (rest_len h) (rP (cu fun i u_=>nw i) (rP (lg _ _ _) ?_)))); exact Int.add_comm _ _
   ·refine (?_:(newE _ _ _).ct+(old b _).ct=_)
    refine rP I.ct (rP (aX r0) ?_)
    refine (?_:(if ((bA (S.wf w0 t j)).s == sg (bA (S.wf w0 t j)).ch)=true then (1:Int) else 0)*((t:Int)+1)+0=_)
    refine rP over ?_
    by_cases z:S.rem (t+1) j=0
    ·refine rP (aY (by simpa using z)) (rP (aY z) ?_)
     have h1:=(E.at' j hj t).mp hp.2
     have h2:¬ t+1<e j:=fun q=>by have:=(E.at' j hj (t+1)).mpr q; exact aN this (aq z)
     lia
    ·refine rP (aX (by simpa using z)) (rP (aX z) ?_); lia
   ·refine (?_:Cal _ _ (addC (old b _).by' (cf (R.map (S.wf w0 t)))))
    have c2:Cal S.n (fun i=>if decide (i≠j) && S.prb t i then 1 else 0) (cf (R.map (S.wf w0 t))):=by
     refine (Cal.callers h4 (p:=fun u_=>false) (S.wf w0 t) R [] (fun i hi=>?_) (Cal.nil fun u_ u_=>rfl)).congr fun i hi=>?_
     ·have:=((dt h).mp hi).1
      exact ⟨this,hw.wc this t⟩
     ·refine rP (Bool.false_or _) ?_
      have:(decide (i∈R))=(decide (i≠j) && S.prb t i):=by
       refine rP (propext (Bool.eq_iff_iff)) (rP decide_eq_true_eq (rP (Bool.and_eq_true _ _) (rP decide_eq_true_eq (rP (propext (prb_iff)) (rP (propext (dt h)) ?_)))))
       exact ⟨fun z=>⟨z.2.1,z.2.2⟩,fun z=>⟨hi,z.1,z.2⟩⟩
      exact rP this rfl
    exact (Cal.addC h4 I.cal c2).congr fun i u_=>(nw i).symm
  ·refine rP (aX q) ?_
   exact (B.en j hj).idle (oth j hj q)
theorem BookInv.perm {e:Nat->Nat}{b:cZ} (h4:S.n<=4) (B:BookInv S e t b):(b.map (·.1)).Perm (((List.range S.n).filter fun j=>decide (0<S.nsv t j)).map fun j=>sg (gch j)):=by
 refine (List.perm_ext_iff_of_nodup B.nd ?_).mpr fun x=>?_
 ·refine cB _ (bQ _) fun x hx y hy e=>?_
  have:=List.mem_range.mp (List.mem_filter.mp hx).1
  have:=List.mem_range.mp (List.mem_filter.mp hy).1
  exact dP (by lia) (by exact nT this h4) e
 ·simp only [List.mem_map (f:=fun j=>sg (gch j)),List.mem_filter,List.mem_range,decide_eq_true_eq]
  constructor
  ·intro h
   obtain ⟨j,hj,q⟩:=B.ks x h
   subst q
   exact ⟨j,⟨hj,(B.lk j hj).mp h⟩,rfl⟩
  ·rintro ⟨j,⟨hj,h0⟩,q⟩
   subst q
   exact (B.lk j hj).mpr h0
theorem BookInv.len {e:Nat->Nat}{b:cZ} (h4:S.n<=4) (B:BookInv S e t b):b.length<=4:=by
 have:=(B.perm h4).length_eq
 rw [am,am] at this
 have h:=bi (fun j=>decide (0<S.nsv t j)) (List.range S.n)
 rw [aM] at h
 exact nT (aq this) (nT h h4)
theorem BookInv.by' {e:Nat->Nat}{b:cZ} (h4:S.n<=4) (B:BookInv S e t b) (x:Str):(old b x).by'.length<=4:=by
 by_cases q:x∈b.map (·.1)
 ·obtain ⟨j,hj,rfl⟩:=B.ks x q
  have:=(B.en j hj).cal.len h4
  exact nT this h4
 ·unfold old
  refine rP (look_none.mpr q) ?_; exact aO _
end Sys
end
section
set_option tactic.hygienic true
noncomputable abbrev sLn:Str:=⟨⟨[108,105,110,101]⟩⟩
noncomputable abbrev sBk:Str:=⟨⟨[98,111,111,107]⟩⟩
noncomputable abbrev sHd:Str:=⟨⟨[104,97,110,100]⟩⟩
structure LF (m:List (Str×D)) (cs:bw) (t:Nat) (hand:Option Wo) (Lf M Kl dx:Addr):Prop where
 c:m.lookup mz=some (kl cs)
 t:m.lookup eV=some (.int (t:Int))
 h:m.lookup sHd=some (me hand)
 l:m.lookup iC=some (.ref Lf)
 b:m.lookup sBk=some (.ref M)
 n:m.lookup sLn=some (.obj (instObj Kl dx))
noncomputable def lu (cs:bw) (t:Nat) (hand:Option Wo) (Lf M Kl dx:Addr):List (Str×D):=[(eV,.int (t:Int)),(sHd,me hand),(iC,.ref Lf),(sBk,.ref M),(sLn,.obj (instObj Kl dx)),(mz,kl cs)]
theorem LF.le {m:List (Str×D)}{cs:bw}{t:Nat}{hand:Option Wo}{Lf M Kl dx:Addr} (f:LF m cs t hand Lf M Kl dx):Ch.Le (.ns m) (.ns (lu cs t hand Lf M Kl dx)):=.all <| by
 intro p hp
 simp -iota only [lu,List.mem_cons,List.not_mem_nil,or_false] at hp
 rcases hp with rfl | rfl | rfl | rfl | rfl | rfl
 ·exact f.t
 ·exact f.h
 ·exact f.l
 ·exact f.b
 ·exact f.n
 ·exact f.c
theorem LF.of (cs:bw) (t:Nat) (hand:Option Wo) (Lf M Kl dx:Addr):LF (lu cs t hand Lf M Kl dx) cs t hand Lf M Kl dx:=⟨rfl,rfl,rfl,rfl,rfl,rfl⟩
noncomputable def dC:Option Wo->List Wo->Option Wo×List Wo
 | none,[]=>(none,[])
 | none,w::ws=>(some w,ws)
 | some w,ws=>(some w,ws)
noncomputable def gD (t:Nat) (b:cZ) (ws:List Wo):Option Wo->Option Wo×cZ
 | none=>(none,b)
 | some w=>(if (bA w).n=0 then none else some (bA w),jA b t (bA w) ws)
noncomputable def handN:Option Wo->Nat
 | none=>0
 | some w=>w.n
theorem dQ (cs:bw) (t:Nat) (s:LSt):dn cs t s =
  ⟨(gD t s.book (dC s.hand (s.q++arr cs t)).2 (dC s.hand (s.q++arr cs t)).1).1,(dC s.hand (s.q++arr cs t)).2,(gD t s.book (dC s.hand (s.q++arr cs t)).2 (dC s.hand (s.q++arr cs t)).1).2,
   s.left++[(handN (gD t s.book (dC s.hand (s.q++arr cs t)).2 (dC s.hand (s.q++arr cs t)).1).1:Int)+lsum (dC s.hand (s.q++arr cs t)).2]⟩:=by
 obtain ⟨hand,q,b,left⟩:=s
 unfold dn
 dsimp only
 induction hand with
 | none=>
  cases q++arr cs t with
  | nil=>rfl
  | cons w ws=>
   refine (?_:LSt.mk _ _ _ _=LSt.mk _ _ _ _)
   dsimp only [dC,gD]
   split
   ·rename_i e; refine rP e ?_; rfl
   ·rfl
 | some w=>
  dsimp only [dC,gD]
  split
  ·rename_i e; refine rP e ?_; rfl
  ·rfl
theorem gc (cs:bw):∀ t,(bN cs t).left.length=t
 | 0=>rfl
 | t+1=>by
  refine (?_:(dn cs t (bN cs t)).left.length=_)
  refine rP (dQ _ _ _) ?_
  dsimp only
  refine rP aH (rP (gc cs t) ?_); rfl
theorem lTake_ok {hand:Option Wo}{q:List Wo} (h:∀ w,hand=some w->w.Ok) (hq:∀ w∈q,w.Ok):(∀ w,(dC hand q).1=some w->w.Ok)/\(∀ w∈(dC hand q).2,w.Ok)/\(dC hand q).2.length<=q.length:=by
 induction hand with
 | none=>
  induction q using List.casesOn with
  | nil=>exact ⟨fun w e=>(by exact nS e),fun w e=>(by exact mN e),aC _⟩
  | cons x q=>exact ⟨fun w e=>by cases e; exact hq _ (.head _),fun w e=>hq _ (.tail _ e),Nat.le_succ _⟩
 | some x=>exact ⟨fun w e=>by cases e; exact h _ rfl,hq,aC _⟩
theorem lw (h:Option Wo):∃ x:Str,me h = .str x/\(x == (⟨⟨[]⟩⟩:Str))=h.isNone:=by
 induction h with
 | none=>exact ⟨_,rfl,rfl⟩
 | some w=>exact ⟨_,rfl,w.ne⟩
section
variable {c:Cst}{A:Around}{led:Led}{Q:D->Led->Prop}{a:Addr}{fd:FuncData}
noncomputable def mh (L:Lx c) (Lf M P dx P2 dy S B C:Addr) (fr:FuncData) (m:List (Str×D)) (left:List Int) (b:cZ) (q:List Wo) (n:Int) (sg:List Nat) (led:Led):Led:=
 (Lf,.lst (left.map .int))::(M,.dic (cr b))::(P,.lst (strD q))::(dx,.dic (mw n (.obj (instObj L.Kl dy)) P))::(P2,.lst [])::(dy,.dic (nB P2 fr))::(S,.lst (chD sg))::(B,.cell (some (.ref S)))::(C,.ns m)::led
inductive V22 {c:Cst} (L:Lx c) (fr:FuncData) (cs:bw) (t:Nat) (st:LSt) (Lf M P dx P2 dy S B C:Addr) (led:Led) (ds:List D) (l:Led):Prop
 | mk (rs:bw) (pre:bw) (m:List (Str×D)):cs=pre++rs->ds=rs.map (fun p=>.tup [.int (p.1:Int),.str p.2.s])->l=mh L Lf M P dx P2 dy S B C fr m st.left st.book (st.q++arr pre t) 1 [] led->LF m cs t st.hand Lf M L.Kl dx->V22 L fr cs t st Lf M P dx P2 dy S B C led ds l
inductive V22a {c:Cst} (L:Lx c) (fr:FuncData) (cs:bw) (t:Nat) (st:LSt) (p:Option Wo×List Wo) (Lf M P dx P2 dy S B C:Addr) (led:Led) (f:Fl) (l:Led):Prop
 | mk:f = .next->∀ (m:List (Str×D)),l=mh L Lf M P dx P2 dy S B C fr m st.left st.book p.2 1 [] led->LF m cs t p.1 Lf M L.Kl dx->V22a L fr cs t st p Lf M P dx P2 dy S B C led f l
inductive V22b {c:Cst} (L:Lx c) (fr:FuncData) (cs:bw) (t:Nat) (st:LSt) (ws:List Wo) (p:Option Wo×cZ) (Lf M P dx P2 dy S B C:Addr) (led:Led) (f:Fl) (l:Led):Prop
 | mk:f = .next->∀ (m:List (Str×D)),l=mh L Lf M P dx P2 dy S B C fr m st.left p.2 ws 1 [] led->LF m cs t p.1 Lf M L.Kl dx->V22b L fr cs t st ws p Lf M P dx P2 dy S B C led f l
theorem w22 (ok:c.Ok) (Bn:Bui c) (hA:Aok A 9) (F:FnAt c a t22.1 fd) (L:Lx c) (N:Nt c) (cs:bw) (hc:km cs) (H:Nat) (hH:∀ t<H,tst cs t (bN cs t).left=true) (hE:tst cs H (bN cs H).left=false)
  (hg:∀ t≤H,(bN cs t).Good) (hm:At led L.T L.tab)
  (h:Q (.tup [.dic (cr (bN cs H).book),.lst ((bN cs H).left.map .int)]) led):Cc c A (.ref a) [kl cs] led Q:=by
 refine F.call ok hA (F.bind1 (x:=mz) fun v=>fun u_ u_ u_ u_ u_ u_ u_ u_ u_ u_ u_ u_=>rfl) rfl rfl ?_
 intro C A' hA'
 refine Sto.lo rfl rfl .h ?_
 refine Exs.co (Ex.asg rfl (Ev.ca rfl rfl (Ev.glo ok rfl rfl rfl L.K.g rfl (Evs.co rfl (L.f16.F.ev ok L.f16.g rfl rfl rfl rfl rfl rfl (Evs.co rfl (Ev.cstr (Evs.ni (w16 ok Bn (hA'.le (by decide)) L.f16.F L.N L.K _ (by decide) (.t hm) ?_)))))))))
 intro fr B S P2 dy hr
 refine Evs.ni ⟨.cls ok L.K.kp,L.K.new ok (hA'.le (by decide)) _ fun P dx=>?_⟩
 refine Asg.lo rfl rfl (.t (.t (.t (.t (.t (.t .h)))))) ?_
 refine Exs.co (Ex.asg rfl (Ev.dicM fun M=>Asg.lo rfl rfl (.t (.t (.t (.t (.t (.t (.t .h))))))) ?_))
 refine Exs.co (Ex.asg rfl (Ev.lstM (Evs.ni ⟨by rw [ai]; decide,fun Lf=>Asg.lo rfl rfl (.t (.t (.t (.t (.t (.t (.t (.t .h)))))))) ?_⟩)))
 refine Exs.co (Ex.asg rfl (Ev.cstr (Asg.lo rfl rfl (.t (.t (.t (.t (.t (.t (.t (.t .h)))))))) ?_)))
 refine Exs.co (Ex.asg rfl (Ev.cn 0 (Asg.lo rfl rfl (.t (.t (.t (.t (.t (.t (.t (.t .h)))))))) ?_)))
 refine Exs.co (Ex.whileW (α:=Nat) (fun t=>mh L Lf M P dx P2 dy S B C fr (lu cs t (bN cs t).hand Lf M L.Kl dx) (bN cs t).left (bN cs t).book (bN cs t).q 1 [] led) (fun t=>t<=H) (fun t=>H - t) 0 .rest (by exact aO _) ?_)
 intro t ht
 have g:=hg t ht
 have gl:(bN cs t).left=[]->t<=lastT cs:=by
  intro e
  have:=gc cs t
  rw [e] at this
  have:t=0:=this.symm
  exact nT (aq this) (aO _)
 refine Tst.run rfl rfl rfl rfl (.t (.t (.t (.t (.t (.t (.t (.t .h)))))))) rfl rfl rfl .h hc.n0 (by have:=hc.n4; exact nD this rfl) (by have:=g.l; exact nD this rfl) gl ?_
 by_cases e:t<H
 ·refine rP (hH t e) (rP (aY rfl) ?_)
  have hnext:bN cs (t+1)=dn cs t (bN cs t):=rfl
  rw [dQ] at hnext
  generalize bN cs t=st at g gl hnext
  have hqok:∀ w∈st.q++arr cs t,w.Ok:=fun w hw=>(List.mem_append.mp hw).elim (g.q w) (arr_ok hc t w)
  have hqlen:(st.q++arr cs t).length<=60:=by refine rP aH ?_; have:=g.ql; have:=nW hc t; lia
  refine Exs.co (Ex.forO (ds:=cs.map fun p=>.tup [.int (p.1:Int),.str p.2.s]) hA'.hh (fun u_=>rfl) (Ev.lo rfl rfl (.t (.t (.t (.t (.t (.t (.t (.t .h)))))))) rfl rfl ⟨.lst,V22 L fr cs t st Lf M P dx P2 dy S B C led,⟨cs,[],_,rfl,rfl,by unfold arr; simp,.of ..⟩,?_,?_⟩))
  ·rintro d rest l I ⟨rs,pre,m,ec,ed,rfl,f⟩
   induction rs using List.casesOn with
   | nil=>exact cN' ed
   | cons p rs=>
   cases ed
   refine Asg.tup hA'.hh rfl rfl (Asg.lo rfl rfl (.t (.t (.t (.t (.t (.t (.t (.t (.t .h))))))))) (Asg.lo rfl rfl (.t (.t (.t (.t (.t (.t (.t (.t (.t .h))))))))) ?_))
   refine Exs.co (Ex.ite (Tst.cmp rfl (Ev.lo rfl rfl (.t (.t (.t (.t (.t (.t (.t (.t (.t .h))))))))) rfl rfl (Ev.lo rfl rfl (.t (.t (.t (.t (.t (.t (.t (.t (.t .h))))))))) f.t rfl (Cmp.eqI ⟨_,rfl,?_⟩)))))
   have hpre:arr (pre++[p]) t=arr pre t++if p.1=t then [p.2] else []:=by
    unfold arr
    refine rP (List.filter_append _ _) (rP aI (rP List.filter_cons ?_))
    by_cases e3:p.1=t
    ·refine rP (aY (beq_iff_eq.mpr e3)) (rP (aY e3) ?_); rfl
    ·refine rP (aX (fun x=>e3 (beq_iff_eq.mp x))) (rP (aX e3) ?_); rfl
   have hal:(arr pre t).length<=10:=by
    have h1:(arr pre t).length<=(arr cs t).length:=by
     unfold arr; refine rP ec (rP (List.filter_append _ _) (rP aI (rP aH ?_))); exact aD _ _
    exact Nat.le_trans h1 (nW hc t)
   by_cases e3:p.1=t
   ·refine rP (aY (by rw [beq_iff_eq]; exact cN e3)) ?_
    refine Exs.co (Ex.expr rfl rfl (Ev.meth rfl rfl rfl rfl (Ev.lo rfl rfl (.t (.t (.t (.t (.t (.t (.t (.t (.t .h))))))))) f.n rfl (Mth.inst ok L.MP.g L.MP.fi L.MP.fn (.t (.t (.t (.t .h)))) rfl (Evs.co rfl (Ev.lo rfl rfl (.t (.t (.t (.t (.t (.t (.t (.t (.t .h))))))))) rfl rfl (Evs.ni ⟨L.FP.kpr,Cl.of (w9push ok (hA'.le (by decide)) L.FP L.X.k6 (.t (.t (.t (.t .h)))) rfl (.t (.t (.t .h))) ?_ ⟨rfl,?_⟩)⟩)))))))
    ·unfold strD; refine rP (am _) (rP aH ?_); have:=g.ql; exact nD (aQ this hal) rfl
    refine Exs.ni (Exs.ni ⟨_,.h,rs,pre++[p],(⟨⟨[119,111,114,100]⟩⟩,.str p.2.s)::(⟨⟨[99,97,109,101]⟩⟩,.int (p.1:Int))::m,by refine rP ec ?_; simp,rfl,?_,⟨f.c,f.t,f.h,f.l,f.b,f.n⟩⟩)
    refine rP hpre (rP (aY e3) ?_)
    unfold mh
    have e4:strD (st.q++(arr pre t++[p.2]))=strD (st.q++arr pre t)++[.str p.2.s]:=by unfold strD; simp -iota
    exact rP e4 rfl
   ·refine rP (aX (by rw [beq_iff_eq]; lia)) ?_
    refine Exs.ni (Exs.ni ⟨_,.h,rs,pre++[p],(⟨⟨[119,111,114,100]⟩⟩,.str p.2.s)::(⟨⟨[99,97,109,101]⟩⟩,.int (p.1:Int))::m,by refine rP ec ?_; simp,rfl,?_,⟨f.c,f.t,f.h,f.l,f.b,f.n⟩⟩)
    refine rP hpre (rP (aX e3) (rP (List.append_nil _) ?_))
    rfl
  rintro l ⟨rs,pre,m,ec,ed,rfl,f⟩
  induction rs using List.casesOn with
  | cons p rs=>exact nC ed
  | nil=>
  rw [List.append_nil] at ec
  subst ec
  generalize st.q++arr cs t=q at hnext hqok hqlen
  obtain ⟨ho1,ho2,ho3⟩:=lTake_ok g.h hqok
  refine Exs.co (Ex.mono (Q':=V22a L fr cs t st (dC st.hand q) Lf M P dx P2 dy S B C led) ?_ ?_)
  ·obtain ⟨x,hx,hx2⟩:=lw st.hand
   refine Ex.ite (Tst.cmp rfl (Ev.lo rfl rfl (.t (.t (.t (.t (.t (.t (.t (.t .h)))))))) (f.h.trans (congrArg some hx)) rfl (Ev.cstr (Cmp.eqS ⟨_,rfl,?_⟩))))
   refine rP hx2 ?_
   cases hst:st.hand with
   | some w=>
    refine rP Option.isNone_some (ifF (by decide) ?_)
    rw [hst] at f
    exact Exs.ni ⟨rfl,m,rfl,f⟩
   | none=>
    refine rP Option.isNone_none (ifT rfl ?_)
    refine Exs.co (Ex.asg rfl (Ev.meth rfl rfl rfl rfl (Ev.lo rfl rfl (.t (.t (.t (.t (.t (.t (.t (.t .h)))))))) f.n rfl (Mth.inst ok L.MG.g L.MG.fi L.MG.fn (.t (.t (.t .h))) rfl (Evs.ni ⟨L.FG.kpr,Cl.of ?_⟩)))))
    induction q using List.casesOn with
    | nil=>
     have V:LexV c L.Kl dx dy P P2 S B fr (fun n sg=>mh L Lf M P dx P2 dy S B C fr m st.left st.book [] n sg led):=
      ⟨fun u_ u_=>.t (.t (.t .h)),fun u_ u_=>.t (.t .h),fun u_ u_=>.t (.t (.t (.t (.t .h)))),fun u_ u_=>.t (.t (.t (.t (.t (.t (.t .h)))))),fun u_ u_=>.t (.t (.t (.t (.t (.t .h))))),
       fun u_ u_ u_=>.t (.t (.t .h)),fun u_ u_ u_=>.t (.t (.t (.t (.t (.t .h)))))⟩
     refine wgt1 V ok Bn (hA'.le (by decide)) L.FG L.X hr ?_
     refine Asg.lo rfl rfl (.t (.t (.t (.t (.t (.t (.t (.t .h)))))))) ?_
     exact Exs.ni ⟨rfl,_,rfl,⟨f.c,f.t,rfl,f.l,f.b,f.n⟩⟩
    | cons w ws=>
     refine wgt0 ok (hA'.le (by decide)) L.FG L.X.k6 (.t (.t (.t .h))) rfl (.t (.t .h)) (by refine rP (am _) ?_; rw [aJ] at hqlen; exact nD (nT (aD _ _) hqlen) rfl) ?_
     refine Asg.lo rfl rfl (.t (.t (.t (.t (.t (.t (.t (.t .h)))))))) ?_
     exact Exs.ni ⟨rfl,_,rfl,⟨f.c,f.t,rfl,f.l,f.b,f.n⟩⟩
  rintro fl l ⟨rfl,m2,rfl,f2⟩
  clear f
  generalize dC st.hand q=tk at hnext ho1 ho2 ho3 f2
  obtain ⟨hd,ws⟩:=tk
  dsimp only at hnext ho1 ho2 ho3 f2 ⊢
  refine Exs.co (Ex.mono (Q':=V22b L fr cs t st ws (gD t st.book ws hd) Lf M P dx P2 dy S B C led) ?_ ?_)
  ·obtain ⟨x,hx,hx2⟩:=lw hd
   refine Ex.ite (Tst.cmp rfl (Ev.lo rfl rfl (.t (.t (.t (.t (.t (.t (.t (.t .h)))))))) (f2.h.trans (congrArg some hx)) rfl (Ev.cstr (Cmp.neS ⟨_,rfl,?_⟩))))
   have hx3:(x != (⟨⟨[]⟩⟩:Str)) = !hd.isNone:=by rw [bne,hx2]
   refine rP hx3 ?_
   induction hd with
   | none=>
    refine rP Option.isNone_none (rP Bool.not_true (ifF (by decide) ?_))
    exact Exs.ni ⟨rfl,_,rfl,f2⟩
   | some w=>
    refine rP Option.isNone_some (rP Bool.not_false (ifT rfl ?_))
    have hw:w.Ok:=ho1 w rfl
    refine Exs.co (Ex.asg rfl (N.f7.F.ev ok N.f7.g rfl rfl rfl rfl rfl rfl (Evs.co rfl (Ev.lo rfl rfl (.t (.t (.t (.t (.t (.t (.t (.t .h)))))))) f2.h rfl (Evs.co rfl (Ev.cn 1 (Evs.ni (nX ok Bn (hA'.le (by decide)) N w hw ?_))))))))
    refine Asg.lo rfl rfl (.t (.t (.t (.t (.t (.t (.t (.t .h)))))))) ?_
    refine Exs.co (Ex.expr rfl rfl (N.f21.F.ev ok N.f21.g rfl rfl rfl rfl rfl rfl (Evs.co rfl (Ev.lo rfl rfl (.t (.t (.t (.t (.t (.t (.t (.t .h)))))))) f2.b rfl (Evs.co rfl (Ev.lo rfl rfl (.t (.t (.t (.t (.t (.t (.t (.t .h)))))))) f2.t rfl (Evs.co rfl (Ev.lo rfl rfl (.t (.t (.t (.t (.t (.t (.t (.t .h)))))))) rfl rfl (Evs.co rfl ?_)))))))))
    refine Ev.att rfl (Ev.lo rfl rfl (.t (.t (.t (.t (.t (.t (.t (.t .h)))))))) f2.n rfl (Gat.own ok L.X.k6.g L.X.k6.h L.X.k6.f rfl (.t (.t (.t .h))) rfl rfl (Evs.ni ?_)))
    refine wnote ok Bn (hA'.le (by decide)) N _ hw.strip ws ho2 (by exact nD (nT ho3 hqlen) rfl) t (.inr ⟨P,rfl,.t (.t .h)⟩) st.book (.t .h) g.b g.by' ⟨rfl,?_⟩
    refine Exs.co (Ex.ite (Tst.cmp rfl (Ev.ca rfl rfl (Ev.bui ok rfl rfl rfl rfl Bn.len'.1 Bn.len'.2 rfl (Evs.co rfl (Ev.lo rfl rfl (.t (.t (.t (.t (.t (.t (.t (.t .h)))))))) rfl rfl (Evs.ni ⟨.bui,Cl.lenS ?_ (Ev.cn 1 (Cmp.eqI ⟨_,rfl,?_⟩))⟩)))))))
    ·refine rP (Wo.len _) (rP ai ?_); have:=hw.strip.2.1; have:=hw.strip.2.2; unfold Wo.n; lia
    refine rP (Wo.len _) ?_
    by_cases e0:(bA w).n=0
    ·refine ifT (by rw [e0]; rfl) ?_
     refine Exs.co (Ex.asg rfl (Ev.cstr (Asg.lo rfl rfl (.t (.t (.t (.t (.t (.t (.t (.t .h)))))))) (Exs.ni (Exs.ni ⟨rfl,_,rfl,⟨f2.c,f2.t,?_,f2.l,f2.b,f2.n⟩⟩)))))
     refine (?_:_=some (me (if (bA w).n=0 then none else some (bA w))))
     refine rP (aY e0) ?_; rfl
    ·refine ifF (by rw [beq_iff_eq]; lia) ?_
     refine Exs.ni (Exs.ni ⟨rfl,_,rfl,⟨f2.c,f2.t,?_,f2.l,f2.b,f2.n⟩⟩)
     refine (?_:_=some (me (if (bA w).n=0 then none else some (bA w))))
     refine rP (aX e0) ?_; rfl
  rintro fl l ⟨rfl,m3,rfl,f3⟩
  have ho4:∀ w,(gD t st.book ws hd).1=some w->w.Ok:=by
   induction hd with
   | none=>intro w e; exact nS e
   | some w0=>
    intro w e
    dsimp only [gD] at e
    split at e
    ·exact nS e
    ·cases e; exact (ho1 w0 rfl).strip
  generalize gD t st.book ws hd=wk at hnext ho4 f3
  obtain ⟨hd2,b2⟩:=wk
  dsimp only at hnext f3 ho4 ⊢
  clear f2
  have hlen:∃ x:Str,me hd2 = .str x/\x.length<=100/\max 0 ((x.length:Int) - 1)=(handN hd2:Int):=by
   induction hd2 with
   | none=>exact ⟨_,rfl,by decide,rfl⟩
   | some w=>
    have hw:=ho4 w rfl
    refine ⟨_,rfl,?_,?_⟩
    ·refine rP (Wo.len _) ?_; have:=hw.2.1; have:=hw.2.2; unfold Wo.n; lia
    ·refine rP (Wo.len _) ?_; show max (0:Int) _=(w.n:Int); lia
  obtain ⟨x,hx,hxl,hxn⟩:=hlen
  refine Exs.co (Ex.expr rfl rfl (Ev.meth rfl rfl rfl rfl (Ev.lo rfl rfl (.t (.t (.t (.t (.t (.t (.t (.t .h)))))))) f3.l rfl (Mth.lstM .h PySem.F.slot_list_append rfl (Evs.co rfl (Ev.bi ?_))))))
  refine Ev.ca rfl rfl (Ev.bui ok rfl rfl rfl rfl Bn.max'.1 Bn.max'.2 rfl (Evs.co rfl (Ev.cn 0 (Evs.co rfl (Ev.bi (Ev.ca rfl rfl (Ev.bui ok rfl rfl rfl rfl Bn.len'.1 Bn.len'.2 rfl (Evs.co rfl (Ev.lo rfl rfl (.t (.t (.t (.t (.t (.t (.t (.t .h)))))))) (f3.h.trans (congrArg some hx)) rfl (Evs.ni ⟨.bui,Cl.lenS (by exact szD hxl rfl) (Ev.cn 1 (Bin.subI (Evs.ni ⟨.bui,Cl.max2 hA'.hh ?_⟩)))⟩))))))))))
  refine rP hxn ?_
  refine Ev.ca rfl rfl (Ev.bui ok rfl rfl rfl rfl Bn.sum'.1 Bn.sum'.2 rfl (Evs.co rfl ?_))
  refine Ev.compM (xs:=ws) (g:=fun w=>.str w.s) (p:=fun u_=>true) (f:=fun w=>.int (w.n:Int)) hA'.hh rfl rfl (by decide) (fun u_=>rfl) ?_
  refine Ev.att rfl (Ev.lo rfl rfl (.t (.t (.t (.t (.t (.t (.t (.t .h)))))))) f3.n rfl (Gat.own ok L.X.k6.g L.X.k6.h L.X.k6.f rfl (.t (.t (.t .h))) rfl rfl ⟨P,rfl,.t (.t .h),by exact szD (nT ho3 hqlen) rfl,?_,?_⟩))
  ·intro acc out I X w hw C2
   have hwo:=ho2 w hw
   refine Asg.lo rfl rfl .h ⟨rfl,?_⟩
   refine Ev.bi (Ev.ca rfl rfl (Ev.bui ok rfl rfl rfl rfl Bn.len'.1 Bn.len'.2 rfl (Evs.co rfl (Ev.lo rfl rfl .h rfl rfl (Evs.ni ⟨.bui,Cl.lenS ?_ (Ev.cn 1 (Bin.subI ⟨?_,.le .ns0 .rest⟩))⟩)))))
   ·refine rP (Wo.len _) (rP ai ?_); have:=hwo.2.1; have:=hwo.2.2; unfold Wo.n; lia
   ·refine rP (Wo.len _) ?_; congr 1; exact prC _
  refine rP (List.filter_eq_self.mpr (fun u_ u_=>rfl)) (rP (show (fun w:Wo=>D.int (w.n:Int))=D.int∘(fun w:Wo=>(w.n:Int)) from rfl) (rQ aG ?_))
  refine Evs.ni ⟨.bui,Cl.sumL hA'.hh (Bin.addI (Evs.ni ⟨.bui,Cl.append .h (by refine rP (am _) (rP ai ?_); have:=g.l; exact nD this rfl) ⟨rfl,?_⟩⟩))⟩
  refine Exs.co (Ex.augN (Ldn.loc rfl rfl (.t (.t (.t (.t (.t (.t (.t (.t .h)))))))) f3.t (Ev.cn 1 (Inp.addI (Sto.lo rfl rfl (.t (.t (.t (.t (.t (.t (.t (.t .h)))))))) (Exs.ni ⟨t+1,by exact Nat.sub_succ_lt_self _ _ e,by exact e,?_⟩))))))
  refine rP hnext ?_
  have e5:(List.map D.int st.left++[D.int ((handN hd2:Int)+(ws.map fun w:Wo=>(w.n:Int)).sum)])=(st.left++[(handN hd2:Int)+lsum ws]).map .int:=by refine rP aI ?_; rfl
  refine rP e5 ?_
  have fz:LF ((eV,.int ((t:Int)+1))::m3) cs (t+1) hd2 Lf M L.Kl dx:=⟨f3.c,rfl,f3.h,f3.l,f3.b,f3.n⟩
  exact .cons .h (.cons .h (.cons .h (.cons .h (.cons .h (.cons .h (.cons .h (.cons .h (.le fz.le .rest))))))))
 ·have e2:t=H:=by exact Nat.le_antisymm ht (aZ e)
  subst e2
  refine rP hE (ifF (by decide) ?_)
  refine Exs.co (Ex.ret (Ev.tup (Evs.co rfl (Ev.frz rfl rfl rfl rfl (.t .h) (.t (.t (.t (.t (.t (.t (.t .h))))))) frzD ok (Evs.co rfl (Ev.frz rfl rfl rfl rfl .h (.t (.t (.t (.t (.t (.t .h)))))) frzL ok (Evs.ni ⟨by refine rP ai ?_; simp,?_⟩)))))))
  exact ⟨_,.drop (.drop (.drop (.drop (.drop (.drop (.drop .rest)))))),h⟩
end
end
section
section
variable {c:Cst}{A:Around}{env:Env}{led:Led}{Z:HP}{s:Shared}{prog:Program}{w:World}{E:Value->Shared->Prop}
theorem iJ {sl:Addr}{u:Tok}{Q:Int×Int×Nat->Shared->Prop} (hs:s.heap.IsSliceOf sl .none (.int 3 u) .none) (h:Q ((0:Int),1,3) s) :
  wpAny (model prog w) A (Builtin.Slice.sliceApplied (.ref sl) (pure (4:Int))) Q E s:=by
 obtain ⟨os,hos,hcs,hds⟩:=id hs
 unfold Builtin.Slice.sliceApplied Builtin.Slice.sliceFields
 refine aa (aa (aU hos hds (x:=.none) rfl (aa (aU hos hds (x:=.int 3 u) rfl (aa (aU hos hds (x:=.none) rfl (ab ?_)))))))
 refine aa (slicePart_none ?_)
 refine (?_:wpAny _ _ (if ((1:Int) == 0)=true then _ else _) _ _ s)
 refine rP (aX (by decide)) ?_
 refine aa (slicePart_none (aa (slicePart_int (aa (ab ?_)))))
 exact ab h
theorem getItem3 {t sl:Addr}{v0 v1 v2 v3:Value}{n:Nat}{u:Tok}{Q:Value->Shared->Prop} (ht:IsTup s.heap t #[v0,v1,v2,v3]) (hs:s.heap.IsSliceOf sl .none (.int 3 u) .none)
  (h:Q (.ref s.heap.objs.size) { s with heap:=s.heap.push { cls:=.type "tuple",data:=.seq #[v0,v1,v2] } }):wpAny (model prog w) A (getItem (.ref t) (.ref sl)) Q E s:=by
 have hsz:sizeOk (.seq #[v0,v1,v2]):=by show 3<=sizeLine; rw [ai]; decide
 obtain ⟨os,hos,hcs,hds⟩:=id hs
 have hTs:s.TypeIs (.ref sl) "slice":=⟨os,hos,hcs⟩
 unfold getItem
 try with_reducible refine aV ?_
 first | refine aa (ab ?_) | skip
 refine aa (wpAny_sequenceKey ht.typeIs (by decide) ?_)
 refine aa (wpAny_callSpecial?_slot (name:=Str.ofString "__getitem__") ht.typeIs PyProof.Rows.slot_tuple_getitem
  (wpAny_call_entry PyProof.Rows.slot_tuple_getitem ht.typeIs PyProof.Rows.entry_tuple_getitem ?_ (args_tuple_getitem _ _)))
 refine (?_:wpAny _ _ (Builtin.Tuple.tupleItemsOf (.ref t) >>= _) _ _ s)
 refine aa (tupleItemsOf_ ht ?_)
 refine aa (wpAny_typeOf hTs ?_)
 refine rP (aY (by decide)) ?_
 refine aa (iJ hs ?_)
 refine (?_:wpAny _ _ (if ((0:Int) == 0 && (1:Int) == 1 && (3 == 4))=true then _ else _) _ _ s)
 refine rP (aX (by decide)) ?_
 have e:((List.range 3).filterMap fun (k:Nat)=>(#[v0,v1,v2,v3]:Array Value)[((0:Int)+(k:Int)*1).toNat]?).toArray = #[v0,v1,v2]:=rfl
 refine rP e ?_
 first
  | exact aa (m:=Builtin.Tuple.tupleExact _) (bp (ab ⟨_,rfl,ab h⟩) hsz)
  | exact aa (m:=Builtin.Tuple.tupleExact _) (bp (aa (ab (ab ⟨_,rfl,ab h⟩))) hsz)
  | exact aa (aa (m:=Builtin.Tuple.tupleExact _) (bp (ab (ab ⟨_,rfl,ab h⟩)) hsz))
  | exact aa (aa (m:=Builtin.Tuple.tupleExact _) (bp (ab ⟨_,rfl,ab h⟩) hsz))
theorem Sub.tup3 {val sl:Expr}{d0 d1 d2 d3:D}{Q:D->Led->Prop} (hs:jQ sl) (h:Q (.tup [d0,d1,d2]) led):Sub c A val sl (.tup [d0,d1,d2,d3]) (.slc none (some 3) none) led Q:=fun Z s u_ u_ r x y=>by
 induction x using AV.eTup with
 | @tup _ vs n e a=>
  induction y using AV.eSlc with
  | slc e1 p1 p2 p3=>
   obtain ⟨ops,hs⟩:=hs _ _
   have e':=r.zin _ _ e
   cases p1; cases p3; cases p2
   refine a.cons' (L:=fun vs=>s.heap.get? _=some (eY vs n)->_) (fun v0 u_ a0 a=>a.cons' (L:=fun vs=>s.heap.get? _=some (eY (v0::vs) n)->_) fun v1 u_ a1 a=>a.two' (L:=fun vs=>s.heap.get? _=some (eY (v0::v1::vs) n)->_) fun v2 v3 a2 a3 e'=>?_) e'
   refine tail_any (bL e').typeIs PyProof.Rows.slot_tuple_getitem.lookup (getItem3 (n:=n) (bL e') ⟨_,r.zin _ _ e1,rfl,rfl⟩ ?_) hs
   obtain ⟨hz,r2⟩:=r.pushZ (o:=eY [_,_,_] 0) rfl
   exact ⟨_,led,_,hz,r2,.tup HP.sf (.cons (a0.mono hz) (.cons (a1.mono hz) (.cons (a2.mono hz) .nil))),h⟩
end
end
section
noncomputable abbrev sPc:PySem.Str:=⟨⟨[112,97,114,116,95,99,111,117,110,116]⟩⟩
section
variable {c:Cst}{A:Around}{led led':Led}{Q:D->Led->Prop}{a:Addr}{fd:FuncData}{C cl dx x:Addr}{cd:ClassData}{ds:List D}
theorem wpush (K:dK c C cl cd) (ok:c.Ok) (hA:Aok A 2) (F:FnAt c a m3push.1 fd) (hap:findIn c.K (.ref C) ⟨⟨[97,112,112,101,110,100]⟩⟩=some (some (.builtin "list.append"))) (hty:typeIn c.K (.builtin "list.append")=some (.type "method_descriptor"))
  {kvs:List (PySem.Str×D)} (hd:At led dx (.dic kvs)) (hk:cM kvs ⟨⟨[97,112,112,101,110,100]⟩⟩=none){d e:D} (u:Up led x (.pile C dx ds) (.pile C dx (ds++[.tup [d,e]])) led') (hz:ds.length<=1000) (h:Q .none led'):Cc c A (.ref a) [.ref x,d,e] led Q:=by
 refine F.call ok hA (m:=[(⟨⟨[115,101,108,102]⟩⟩,.ref x),(⟨⟨[102,119,115]⟩⟩,d),(⟨⟨[115,116,114,105,110,103]⟩⟩,e)]) (fun Z s vs r av=>av.cons' fun v vs av az=>az.two' fun u w au aw=>⟨[(⟨⟨[115,101,108,102]⟩⟩,v),(⟨⟨[102,119,115]⟩⟩,u),(⟨⟨[115,116,114,105,110,103]⟩⟩,w)],.of_eq (F.bindEq fun u_ u_ u_ u_ u_ u_ u_ u_ u_ u_ u_ u_=>rfl),.cons av (.cons au (.cons aw .nil))⟩) rfl rfl ?_
 intro L A' hA'
 refine Sto.lo rfl rfl .h (Sto.lo rfl rfl .h (Sto.lo rfl rfl .h ?_))
 refine Exs.co (Ex.expr rfl rfl (Ev.meth rfl rfl rfl rfl (Ev.lo rfl rfl .h rfl rfl (Mth.pile K ok hap hty (by decide) (.t u.at) (.t hd) hk (Evs.co rfl (Ev.tup (Evs.co rfl (Ev.lo rfl rfl .h rfl rfl (Evs.co rfl (Ev.lo rfl rfl .h rfl rfl (Evs.ni ⟨by refine rP ai ?_; simp,Evs.ni ⟨.bui,Cl.appendP K ok (.t u) (by exact szD (aB hz) rfl) ⟨rfl,?_⟩⟩⟩)))))))))))
 exact Exs.ni ⟨_,.drop .rest,h⟩
theorem FnS.bindEq {t:Txt} (F:FnS c a cl t fd) (df:fd.defaults = .none) (kd:fd.kwdefaults = .none){vs:List Value}{l:List (PySem.Str×Value)} (h:gJ t.pars vs l):bindArgs fd ⟨vs,[]⟩=pure l:=by
 have pr:=F.pr
 clear F
 cases fd
 simp only at pr df kd
 subst pr df kd
 exact h ..
theorem wcount (K:dK c C cl cd) (ok:c.Ok) (hA:Aok A 3) (F:FnS c a cl m3count.1 fd) (df:fd.defaults = .none) (kd:fd.kwdefaults = .none) (hp:At led x (.pile C dx ds)) (h:Q (.int ds.length) led):Cc c A (.ref a) [.ref x] led Q:=by
 refine F.call ok hA (m:=[(⟨⟨[115,101,108,102]⟩⟩,.ref x)]) (fun Z s vs r av=>av.one' fun v av=>⟨[(⟨⟨[115,101,108,102]⟩⟩,v)],.of_eq (F.bindEq df kd fun u_ u_ u_ u_ u_ u_ u_ u_ u_ u_ u_ u_=>rfl),.cons av .nil⟩) rfl rfl rfl ?_
 intro L A' hA'
 refine Sto.lo rfl rfl .h ?_
 refine ExsW.ret (EvW.sup (x:=x) (dx:=dx) bmLen (.inl rfl) K F ok K.len rfl rfl rfl rfl (by decide) rfl rfl .h rfl (.t hp) (Cl.of (Cc.bbLen (.t hp) ⟨_,.drop .rest,h⟩)))
theorem Cc.bbPop' (K:dK c C cl cd) (ok:c.Ok){d:D} (u:Up led x (.pile C dx (ds++[d])) (.pile C dx ds) led') (hz:ds.length<=1000) (h:Q d led'):Cc c A (.obj (bbO "builtin_function_or_method" "list.pop" x)) [] led Q:=Cc.bbPop K ok u (by exact szD (aB hz) rfl) h
theorem wpop0 {a2:Addr}{fd2:FuncData} (K:dK c C cl cd) (ok:c.Ok) (hA:Aok A 5) (F:FnS c a cl m3pop.1 fd) (df:fd.defaults = .none) (kd:fd.kwdefaults = .none) (F2:FnS c a2 cl m3count.1 fd2) (df2:fd2.defaults = .none) (kd2:fd2.kwdefaults = .none)
  (hpc:findIn c.K (.ref C) sPc=some (some (.ref a2))) (hty:typeIn c.K (.ref a2)=some (.type "function")){kvs:List (PySem.Str×D)} (hd:At led dx (.dic kvs)) (hk:cM kvs sPc=none)
  (hp:At led x (.pile C dx ds)) (h0:ds=[]->Q (.tup [.str ⟨⟨[]⟩⟩,.str ⟨⟨[]⟩⟩]) led) (h1:∀ es d,ds=es++[d]->∃ led',Up led x (.pile C dx (es++[d])) (.pile C dx es) led'/\Q d led') (hz:ds.length<=1000):Cc c A (.ref a) [.ref x] led Q:=by
 refine F.call ok hA (m:=[(⟨⟨[115,101,108,102]⟩⟩,.ref x)]) (fun Z s vs r av=>av.one' fun v av=>⟨[(⟨⟨[115,101,108,102]⟩⟩,v)],.of_eq (F.bindEq df kd fun u_ u_ u_ u_ u_ u_ u_ u_ u_ u_ u_ u_=>rfl),.cons av .nil⟩) rfl rfl rfl ?_
 intro L A' hA'
 refine Sto.lo rfl rfl .h ?_
 have kpr:∀ l,Kpr c (.ref a2) l:=fun l=>let ⟨_,h1,h2⟩:=F2.o; .fn h1 h2
 refine ExsW.cons (Ex.ite (Tst.cmp rfl (Ev.meth rfl rfl rfl rfl (Ev.lo rfl rfl .h rfl rfl (Mth.pile K ok hpc hty (by decide) (.t hp) (.t hd) hk (Evs.ni ⟨kpr _,Cl.of (wcount K ok (hA'.le (by decide)) F2 df2 kd2 (.t hp) (Ev.cn 0 (Cmp.eqI ⟨_,rfl,?_⟩)))⟩))))))
 induction ds using List.casesOn with
 | nil=>
  refine ifT (by rfl) ?_
  exact Exs.co (Ex.ret (Ev.tup (Evs.co rfl (Ev.cstr (Evs.co rfl (Ev.cstr (Evs.ni ⟨by rw [ai]; simp,_,.drop .rest,h0 rfl⟩)))))))
 | cons d0 ds0=>
  refine ifF (by simp; lia) ?_
  refine Exs.ni ?_
  obtain ⟨es,d,e⟩:∃ es d,d0::ds0=es++[d]:=⟨(d0::ds0).dropLast,(d0::ds0).getLast (by simp),(List.dropLast_concat_getLast (by simp)).symm⟩
  obtain ⟨led',u,q⟩:=h1 es d e
  rw [e] at hp hz
  refine ExsW.ret (EvW.sup (x:=x) (dx:=dx) bmPop (.inr rfl) K F ok K.pop rfl rfl rfl rfl (by decide) rfl rfl .h rfl (.t hp) (Cl.of (Cc.bbPop' K ok (.t u) (by simp at hz; exact nD hz rfl) ⟨_,.drop .rest,q⟩)))
theorem winit {dT:Addr} (K:dK c C cl cd) (ok:c.Ok) (hA:Aok A 4) (F:FnS c a cl m3init.1 fd) (df:fd.defaults = .ref dT) (hT:∃ o n t,c.H0.get? dT=some o/\o.data = .seq #[.int 0 t] n) (kd:fd.kwdefaults = .none) (ht:takerIn c.K C mu=some none)
  (hp:At led x (.pile C dx [])) (u:Up led dx (.dic []) (.dic [(mu,.int 0)]) led') (hp':At led' x (.pile C dx [])) (h:Q .none led'):Cc c A (.ref a) [.ref x] led Q:=by
 refine F.call ok hA (m:=[(⟨⟨[115,101,108,102]⟩⟩,.ref x),(⟨⟨[105,110,105,116,105,97,108,95,115,105,122,101]⟩⟩,.int 0)]) (fun Z s vs r av=>av.one' (L:=fun vs=>∃ l,BindsTo s fd ⟨vs,[]⟩ l/\Binds c.w Z l _) fun v av=>?_) rfl rfl rfl ?_
 ·obtain ⟨o,n,t,h1,h2⟩:=hT
  refine ⟨[(⟨⟨[115,101,108,102]⟩⟩,v),(⟨⟨[105,110,105,116,105,97,108,95,115,105,122,101]⟩⟩,.int 0 t)],?_,.cons av (.cons .int .nil)⟩
  have pr:=F.pr
  have h1':=r.keepH _ _ h1
  clear F
  cases fd
  simp only at pr df kd
  subst pr df kd
  exact BindsTo.of_defaults rfl h1' h2 rfl rfl
 ·intro L A' hA'
  refine Sto.lo rfl rfl .h (Sto.lo rfl rfl .h ?_)
  refine ExsW.cons (Ex.asgA rfl (Ev.lo rfl rfl .h rfl rfl (Ev.lo rfl rfl .h rfl rfl (Sat.pile K ok ht (.t hp) (.t u) (by simp) ?_))))
  refine ExsW.expr rfl rfl (EvW.sup (x:=x) (dx:=dx) bmInit (.inl rfl) K F ok K.ini rfl rfl rfl rfl (by decide) rfl rfl .h rfl (.t hp') (Cl.of (Cc.bbInit (.t hp') ?_)))
  exact ExsW.nil ⟨_,.drop .rest,h⟩
theorem Cl.lenP {f:Addr}{k:Int} (K:dK c C cl cd) (ok:c.Ok) (hp:At led x (.pile C dx ds)){kvs:List (PySem.Str×D)} (hd:At led dx (.dic kvs)) (hs:findIn c.K (.ref C) "__len__" = some (some (.ref f))) (hf:isFn c.K (.ref f)=true) (hk:0<=k/\k<2 ^ 63)
  (h:Cc c A.in1 (.ref f) [.ref x] led fun d l=>d = .int k/\Q (.int k) l):Cl c A (.val (.builtin "len")) [.ref x] led Q:=.of1 fun Z s v r y=>y.val' <| by
 obtain ⟨vs,n,ho,aw⟩:=r.pile hp
 obtain ⟨o2,ho2,hx⟩:=r.at_ hd
 have I:InstAt s.heap x (bF C dx vs n) C (some o2):=⟨ho,rfl,rfl,ho2⟩
 refine Calls.call_function_entry PySem.kind_len PySem.plain_len PySem.entry_len (PySem.args_len1 _) ?_
 unfold Builtin.«len»
 refine aa (m:=oneArg "len" _) (ab ?_)
 refine aa (m:=callSpecial? (.ref x) (PySem.Str.ofString "__len__")) (special_fn (r.inK ok) I hs (beq_iff_eq.mp hf) (bD (Cl.of h Z s _ _ r .val (.cons .val .nil)) fun Z' led' s' w d hz r' aw' q=>?_))
 obtain ⟨rfl,q⟩:=q
 refine aw'.int' fun t=>?_
 refine aa (aV (ab ?_))
 refine aa (wpAny_letGo ?_)
 refine (?_:wpAny _ _ (if k<0 then _ else _) _ _ _)
 refine rP (aX (by exact Int.not_lt.2 hk.1)) ?_
 refine (?_:wpAny _ _ (if k>=2 ^ 63 then _ else _) _ _ _)
 refine rP (aX (by exact Int.not_le.2 hk.2)) ?_
 exact aa (wpAny_mkInt (ab ⟨_,rfl,⟨Z',led',_,hz,r'.toks _,.int,q⟩⟩))
end
end
section
theorem lx:∀ (n:Nat) (acc:Array Nat),List.foldl (fun x1 x2=>x1++x2) acc (List.replicate n #[32])=acc++(List.replicate n 32).toArray
 | 0,acc=>by simp
 | n+1,acc=>by
  refine rP List.replicate_succ (rP List.foldl_cons (rP (lx n _) (rP List.replicate_succ ?_)))
  apply Array.ext'
  simp
theorem mul_spn (f:Nat):Txt.mul ⟨⟨[32]⟩⟩ (f:Int)=tx (List.replicate f 32):=by
 match f with
 | 0=>rfl
 | 1=>rfl
 | f+2=>
  unfold Txt.mul
  rw [aX (by lia),aX (by
   intro h
   rw [Bool.or_eq_true,beq_iff_eq] at h
   rcases h with h | h
   ·exact Int.not_le_of_gt (iT (Nat.le_add_left _ _)) (Int.le_of_eq h)
   ·exact fT h),show (((f+2:Nat):Int)).toNat=f+2 by rfl]
  refine (?_:(⟨List.foldl (fun x1 x2=>x1++x2) #[] (List.replicate (f+2) #[32])⟩:Str)=_)
  rw [lx]
  simp [tx]
structure Ac (c:Cst) where
 C:Addr
 cl:Addr
 cd:ClassData
 K:dK c C cl cd
 g:c.mg ⟨⟨[95,65,99,99,117,109,117,108,97,116,111,114]⟩⟩=some (.ref C)
 ap:findIn c.K (.ref C) ⟨⟨[97,112,112,101,110,100]⟩⟩=some (some (.builtin "list.append"))
 apt:typeIn c.K (.builtin "list.append")=some (.type "method_descriptor")
 it:findIn c.K (.ref C) "__iter__" = some (some (.builtin "list.__iter__"))
 ini:findIn c.K (.ref C) mu=some none
 tk:takerIn c.K C mu=some none
 fI:Addr
 fdI:FuncData
 FI:FnS c fI cl m3init.1 fdI
 dT:Addr
 dfI:fdI.defaults = .ref dT
 hT:∃ o n t,c.H0.get? dT=some o/\o.data = .seq #[.int 0 t] n
 kdI:fdI.kwdefaults = .none
 fIi:findIn c.K (.ref C) "__init__" = some (some (.ref fI))
 fIt:typeIn c.K (.ref fI)=some (.type "function")
 fU:Addr
 fdU:FuncData
 FU:FnAt c fU m3push.1 fdU
 fUi:findIn c.K (.ref C) ⟨⟨[112,117,115,104]⟩⟩=some (some (.ref fU))
 fUt:typeIn c.K (.ref fU)=some (.type "function")
 fO:Addr
 fdO:FuncData
 FO:FnS c fO cl m3pop.1 fdO
 dfO:fdO.defaults = .none
 kdO:fdO.kwdefaults = .none
 fOi:findIn c.K (.ref C) ⟨⟨[112,111,112]⟩⟩=some (some (.ref fO))
 fOt:typeIn c.K (.ref fO)=some (.type "function")
 fN:Addr
 fdN:FuncData
 FN:FnS c fN cl m3count.1 fdN
 dfN:fdN.defaults = .none
 kdN:fdN.kwdefaults = .none
 fNi:findIn c.K (.ref C) sPc=some (some (.ref fN))
 fNt:typeIn c.K (.ref fN)=some (.type "function")
 fL:Addr
 fdL:FuncData
 FL:FnAt c fL m3len.1 fdL
 cc:Addr
 T:Addr
 NL:CodAt c fdL cc T
 fLi:findIn c.K (.ref C) "__len__" = some (some (.ref fL))
 fLt:isFn c.K (.ref fL)=true
 gf:c.gf=none
section
variable {c:Cst}{A:Around}{env:Env}{led:Led}{Q:D->Led->Prop}
theorem Ac.new (P:Ac c) (ok:c.Ok) (hA:Aok A 6) (h:∀ x dx,Q (.ref x) ((x,.pile P.C dx [])::(dx,.dic [(mu,.int 0)])::led)):Cl c A (.ref P.C) [] led Q:=
 Cl.of (Cc.clsL P.K ok hA P.fIi P.fIt fun x dx A' hA'=>winit P.K ok hA' P.FI P.dfI P.hT P.kdI P.tk .h (.t .h) .h ⟨rfl,h x dx⟩)
theorem FnS.kpr {a cl:Addr}{t:Txt}{fd:FuncData} (F:FnS c a cl t fd) (l:Led):Kpr c (.ref a) l:=let ⟨_,h1,h2⟩:=F.o; .fn h1 h2
theorem Ev.compP (P:Ac c) (ok:c.Ok){elt tgt iter:Expr}{ifs:List Expr}{scope:Scope}{pos:Pos}{cl:List (Str×Addr)}{α:Type}{g:α->D}{p:α->Bool}{f:α->D}{xs:List α} (hh:A.handled=none)
  (hclos:closureFor scope env=pure cl) (hkind:scope.kind = .function) (hnames:∀ x∈scope.names,x.2 = .local->scope.names.lookup x.1=some .local)
  (hs:∀ x,foldedSetIterable iter env x=pure x)
  (h:Ev c A env iter led fun d led₁=>∃ l dx kvs,d = .ref l/\At led₁ l (.pile P.C dx (xs.map g))/\At led₁ dx (.dic kvs)/\xs.length<=sizeLine/\
   (∀ acc out I X x,x∈xs->dm c A env scope cl elt tgt ifs ((acc,.lst out)::(I,X)::led₁) (g x) (p x) (f x))/\
   Q (.lst ((xs.filter p).map f)) led₁):Ev c A env (.ListComp elt [⟨tgt,iter,ifs,0⟩] scope pos) led Q:=by
 refine Ev.comp (g:=g) (xs:=xs) (p:=p) (f:=f) hclos hkind hnames hs (h.mono ?_)
 rintro _ led₁ ⟨l,dx,kvs,rfl,hm,hd,hz,ht,hq⟩
 refine Itr.pile P.K ok P.it hm hd fun I=>⟨I,mG l (xs.map g).length,_,led₁,rfl,Cur.itP (C:=P.C) (dx:=dx) hh tgt,Slf.itL I l _,?_,hz,?_,fun acc out rest x hx=>ht acc out I _ x hx,hq⟩
 ·refine (?_:(I,Ch.itL l 0)::led₁=(I,Ch.itL l ((xs.map g).length - (xs.map g).length))::led₁)
  exact rP (Nat.sub_self _) rfl
 ·intro pre q e fr
  exact ⟨(At.t hm).app fr,⟨pre.map g,by exact rQ aI (rQ e rfl)⟩⟩
end
end
section
noncomputable abbrev sPil:Str:=⟨⟨[112,105,108,101]⟩⟩
noncomputable abbrev sBk2:Str:=⟨⟨[98,111,111,107]⟩⟩
noncomputable abbrev sBl:Str:=⟨⟨[98,108,97,110,107,115]⟩⟩
noncomputable abbrev sSg:Str:=⟨⟨[115,105,103,110]⟩⟩
theorem mi (f ch:Nat):Txt.slice (Wd f 0 ch) none (some (-1))=tx (List.replicate f 32):=by
 have hl:(Wd f 0 ch).length=f+1:=by exact rP (bI _ _ _) rfl
 have hl2:(Wd f 0 ch).cps.toList.length=f+1:=by refine rP (eG _ _ _) ?_; simp -iota
 refine (StrLaws.sliceText_neg_hi (Wd f 0 ch) none (by decide) (by lia)).trans ?_
 refine rP (show (-1+((Wd f 0 ch).length:Int))=(f:Int) by lia) ?_
 refine (StrLaws.sliceText_to (by exact ⟨(aW _),(iL (nT (aD _ _) (aq hl2.symm)))⟩)).trans ?_
 refine rP (eG _ _ _) (rP List.drop_zero (rP (show ((f:Int) - 0).toNat=f by rfl) (rP (List.take_left' (by simp -iota)) ?_)))
 rfl
noncomputable def pp (p:Nat×Nat):Str×Str:=(tx (List.replicate p.1 32),sg p.2)
noncomputable def jE (ds:List (Nat×Nat)):List D:=(ds.map pp).map fun p=>.tup [.str p.1,.str p.2]
theorem sg_ne (k:Nat):(sg k == (⟨⟨[]⟩⟩:Str))=false:=by
 refine rP (propext (beq_eq_false_iff_ne)) ?_; intro e
 have:(sg k).length=0:=by refine rP e ?_; rfl
 unfold sg at this
 rw [bI] at this
 exact aN (aC _) (aq this)
structure PSt.Good (s:PSt):Prop where
 c:∀ p∈s.ds,(pw p).Ok
 cl:s.ds.length<=50
 b:s.book.length<=100
 by':∀ k,(old s.book k).by'.length<=500
 l:s.left.length<=900
noncomputable def bU (cs:bw):Nat->PSt
 | 0=>⟨[],[],[]⟩
 | t+1=>dp cs t (bU cs t)
noncomputable def ek (t:Nat) (b:cZ) (ds:List (Nat×Nat)):List (Nat×Nat)×cZ:=
 match ds.getLast? with
 | none=>([],b)
 | some p=>(if p.1 - 1=0 then ds.dropLast else ds.dropLast++[(p.1 - 1,p.2)],jA b t ⟨p.1 - 1,0,p.2⟩ (ds.dropLast.map pw))
theorem dR (cs:bw) (t:Nat) (s:PSt):dp cs t s=⟨(ek t s.book (s.ds++gR cs t)).1,(ek t s.book (s.ds++gR cs t)).2,s.left++[psum (ek t s.book (s.ds++gR cs t)).1]⟩:=by
 unfold dp ek
 dsimp only
 cases (s.ds++gR cs t).getLast? <;> rfl
theorem ge (cs:bw):∀ t,(bU cs t).left.length=t
 | 0=>rfl
 | t+1=>by
  refine (?_:(dp cs t (bU cs t)).left.length=_)
  refine rP (dR _ _ _) ?_
  dsimp only
  refine rP aH (rP (ge cs t) ?_); rfl
structure PlF (m:List (Str×D)) (cs:bw) (t:Nat) (Lf M x:Addr):Prop where
 c:m.lookup mz=some (kl cs)
 t:m.lookup eV=some (.int (t:Int))
 l:m.lookup iC=some (.ref Lf)
 b:m.lookup sBk2=some (.ref M)
 p:m.lookup sPil=some (.ref x)
noncomputable def ly (cs:bw) (t:Nat) (Lf M x:Addr):List (Str×D):=[(eV,.int (t:Int)),(iC,.ref Lf),(sBk2,.ref M),(sPil,.ref x),(mz,kl cs)]
theorem PlF.le {m:List (Str×D)}{cs:bw}{t:Nat}{Lf M x:Addr} (f:PlF m cs t Lf M x):Ch.Le (.ns m) (.ns (ly cs t Lf M x)):=.all <| by
 intro p hp
 simp -iota only [ly,List.mem_cons,List.not_mem_nil,or_false] at hp
 rcases hp with rfl | rfl | rfl | rfl | rfl
 ·exact f.t
 ·exact f.l
 ·exact f.b
 ·exact f.p
 ·exact f.c
theorem PlF.of (cs:bw) (t:Nat) (Lf M x:Addr):PlF (ly cs t Lf M x) cs t Lf M x:=⟨rfl,rfl,rfl,rfl,rfl⟩
theorem lz (cs:bw) (t:Nat):(gR cs t).length<=cs.length:=by
 unfold gR arr
 refine rP (am _) (rP (am _) ?_)
 exact bi _ _
theorem psum_eq (ds:List (Nat×Nat)):((ds.map pp).map fun p=>((p.1.length:Int)+(p.2.length:Int))).sum - (ds.length:Int)=psum ds:=by
 unfold psum
 induction ds with
 | nil=>rfl
 | cons p ds ih=>
  rw [aA,aA,List.sum_cons,aA,List.sum_cons,aJ,<- ih]
  have h1:(pp p).1.length=p.1:=by unfold pp; exact rP (eh _) (rP List.length_replicate rfl)
  have h2:(pp p).2.length=1:=by unfold pp sg; exact rP (bI _ _ _) rfl
  refine rP h1 (rP h2 ?_); lia
noncomputable def pop2 (ds:List (Nat×Nat)):Str×Str:=match ds.getLast? with
 | none=>(⟨⟨[]⟩⟩,⟨⟨[]⟩⟩)
 | some p=>pp p
theorem snoc_of {ds:List (Nat×Nat)}{p:Nat×Nat} (h:ds.getLast? = some p):ds=ds.dropLast++[p]:=by
 obtain ⟨ys,rfl⟩:=List.getLast?_eq_some_iff.mp h
 exact rP List.dropLast_concat rfl
theorem pp_s (p:Nat×Nat):(pp p).1++(pp p).2=(pw p).s:=by
 refine (?_:tx _++tx [p.2]=_)
 refine rP (jB _ _) ?_; rfl
theorem iK (p:Nat×Nat):bA (pw p)=⟨p.1 - 1,0,p.2⟩:=by
 unfold bA pw
 dsimp only
 exact rP (Nat.zero_sub _) rfl
section
variable {c:Cst}{A:Around}{led:Led}{Q:D->Led->Prop}{a:Addr}{fd:FuncData}
noncomputable def jF (P:Ac c) (Lf M x dx C:Addr) (m:List (Str×D)) (left:List Int) (b:cZ) (ds:List (Nat×Nat)) (led:Led):Led:=
 (Lf,.lst (left.map .int))::(M,.dic (cr b))::(x,.pile P.C dx (jE ds))::(dx,.dic [(mu,.int 0)])::(C,.ns m)::led
theorem eJ (ds:List (Nat×Nat)) (p:Nat×Nat):jE (ds++[p])=jE ds++[.tup [.str (pp p).1,.str (pp p).2]]:=by unfold jE; refine rP aI (rP aI ?_); rfl
theorem cJ (ds:List (Nat×Nat)):(jE ds).length=ds.length:=by unfold jE; exact rP (am _) (rP (am _) rfl)
inductive V23 {c:Cst} (P:Ac c) (cs:bw) (t:Nat) (st:PSt) (Lf M x dx C:Addr) (led:Led) (ds:List D) (l:Led):Prop
 | mk (rs:bw) (pre:bw) (m:List (Str×D)):cs=pre++rs->ds=rs.map (fun p=>.tup [.int (p.1:Int),.str p.2.s])->l=jF P Lf M x dx C m st.left st.book (st.ds++gR pre t) led->PlF m cs t Lf M x->V23 P cs t st Lf M x dx C led ds l
inductive V23a {c:Cst} (P:Ac c) (cs:bw) (t:Nat) (st:PSt) (ds:List (Nat×Nat)) (p:Str×Str) (Lf M x dx C:Addr) (led:Led) (f:Fl) (l:Led):Prop
 | mk:f = .next->∀ (m:List (Str×D)),l=jF P Lf M x dx C m st.left st.book ds.dropLast led->PlF m cs t Lf M x->m.lookup sBl=some (.str p.1)->m.lookup sSg=some (.str p.2)->V23a P cs t st ds p Lf M x dx C led f l
inductive V23b {c:Cst} (P:Ac c) (cs:bw) (t:Nat) (st:PSt) (p:List (Nat×Nat)×cZ) (Lf M x dx C:Addr) (led:Led) (f:Fl) (l:Led):Prop
 | mk:f = .next->∀ (m:List (Str×D)),l=jF P Lf M x dx C m st.left p.2 p.1 led->PlF m cs t Lf M x->V23b P cs t st p Lf M x dx C led f l
theorem w23 (ok:c.Ok) (Bu:Bui c) (hA:Aok A 12) (F:FnAt c a t23.1 fd) (P:Ac c) (N:Nt c) (cs:bw) (hc:km cs) (hcn:∀ p∈cs,p.2.n<=20) (H:Nat) (hH:∀ t<H,tst cs t (bU cs t).left=true) (hE:tst cs H (bU cs H).left=false)
  (hg:∀ t≤H,(bU cs t).Good) (hT:At led P.T .tabG)
  (h:Q (.tup [.dic (cr (bU cs H).book),.lst ((bU cs H).left.map .int)]) led):Cc c A (.ref a) [kl cs] led Q:=by
 refine F.call ok hA (F.bind1 (x:=mz) fun v=>fun u_ u_ u_ u_ u_ u_ u_ u_ u_ u_ u_ u_=>rfl) rfl rfl ?_
 intro C A' hA'
 refine Sto.lo rfl rfl .h ?_
 refine Exs.co (Ex.asg rfl (Ev.ca rfl rfl (Ev.glo ok rfl rfl rfl P.g rfl (Evs.ni ⟨.cls ok P.K.kp,P.new ok (hA'.le (by decide)) fun x dx=>?_⟩))))
 refine Asg.lo rfl rfl (.t (.t .h)) ?_
 refine Exs.co (Ex.asg rfl (Ev.dicM fun M=>Asg.lo rfl rfl (.t (.t (.t .h))) ?_))
 refine Exs.co (Ex.asg rfl (Ev.lstM (Evs.ni ⟨by rw [ai]; decide,fun Lf=>Asg.lo rfl rfl (.t (.t (.t (.t .h)))) ?_⟩)))
 refine Exs.co (Ex.asg rfl (Ev.cn 0 (Asg.lo rfl rfl (.t (.t (.t (.t .h)))) ?_)))
 refine Exs.co (Ex.whileW (α:=Nat) (fun t=>jF P Lf M x dx C (ly cs t Lf M x) (bU cs t).left (bU cs t).book (bU cs t).ds led) (fun t=>t<=H) (fun t=>H - t) 0 .rest (by exact aO _) ?_)
 intro t ht
 have g:=hg t ht
 have gl:(bU cs t).left=[]->t<=lastT cs:=by
  intro e
  have:=ge cs t
  rw [e] at this
  have:t=0:=this.symm
  exact nT (aq this) (aO _)
 refine Tst.run rfl rfl rfl rfl (.t (.t (.t (.t .h)))) rfl rfl rfl .h hc.n0 (by have:=hc.n4; exact nD this rfl) (by have:=g.l; exact nD this rfl) gl ?_
 by_cases e:t<H
 ·refine rP (hH t e) (ifT rfl ?_)
  have hnext:bU cs (t+1)=dp cs t (bU cs t):=rfl
  rw [dR] at hnext
  generalize bU cs t=st at g gl hnext
  have hpok:∀ p∈st.ds++gR cs t,(pw p).Ok:=fun p hp=>(List.mem_append.mp hp).elim (g.c p) fun hp=>by
   unfold gR arr at hp
   obtain ⟨w,hw,rfl⟩:=List.mem_map.mp hp
   obtain ⟨q,hq,rfl⟩:=List.mem_map.mp hw
   have h1:=(List.mem_filter.mp hq).1
   exact ⟨(hc.ok q h1).1,hcn q h1,aO _⟩
  have hplen:(st.ds++gR cs t).length<=60:=by refine rP aH ?_; have:=g.cl; have:=lz cs t; have:=hc.n4; lia
  refine Exs.co (Ex.forO (ds:=cs.map fun p=>.tup [.int (p.1:Int),.str p.2.s]) hA'.hh (fun u_=>rfl) (Ev.lo rfl rfl (.t (.t (.t (.t .h)))) rfl rfl ⟨.lst,V23 P cs t st Lf M x dx C led,⟨cs,[],_,rfl,rfl,by unfold gR arr; simp,.of ..⟩,?_,?_⟩))
  ·rintro d rest l I ⟨rs,pre,m,ec,ed,rfl,f⟩
   induction rs using List.casesOn with
   | nil=>exact cN' ed
   | cons p rs=>
   cases ed
   have hpm:p∈cs:=by refine rP ec ?_; simp -iota
   have hwo:=hc.ok p hpm
   have hwl:p.2.s.length<=50:=by refine rP (Wo.len _) ?_; have:=hwo.2.1; have:=hwo.2.2; unfold Wo.n; lia
   refine Asg.tup hA'.hh rfl rfl (Asg.lo rfl rfl (.t (.t (.t (.t (.t .h))))) (Asg.lo rfl rfl (.t (.t (.t (.t (.t .h))))) ?_))
   refine Exs.co (Ex.ite (Tst.cmp rfl (Ev.lo rfl rfl (.t (.t (.t (.t (.t .h))))) rfl rfl (Ev.lo rfl rfl (.t (.t (.t (.t (.t .h))))) f.t rfl (Cmp.eqI ⟨_,rfl,?_⟩)))))
   have hpre:gR (pre++[p]) t=gR pre t++if p.1=t then [(p.2.n,p.2.ch)] else []:=by
    unfold gR arr
    refine rP (List.filter_append _ _) (rP aI (rP aI (rP List.filter_cons ?_)))
    by_cases e3:p.1=t
    ·refine rP (aY (beq_iff_eq.mpr e3)) (rP (aY e3) ?_); rfl
    ·refine rP (aX (fun x=>e3 (beq_iff_eq.mp x))) (rP (aX e3) ?_); rfl
   have hal:(gR pre t).length<=10:=by
    have h1:=lz pre t
    have h2:cs.length=pre.length+(p::rs).length:=by exact rP ec (rP aH rfl)
    have:=hc.n4; exact nT h1 (nT (nT (aD _ _) (aq h2.symm)) this)
   by_cases e3:p.1=t
   ·refine rP (aY (by rw [beq_iff_eq]; exact cN e3)) ?_
    refine Exs.co (Ex.expr rfl rfl (Ev.meth rfl rfl rfl rfl (Ev.lo rfl rfl (.t (.t (.t (.t (.t .h))))) f.p rfl (Mth.pile P.K ok P.fUi P.fUt (by decide) (.t (.t (.t .h))) (.t (.t (.t (.t .h)))) rfl (Evs.co rfl (Ev.bi (Ev.cstr (Ev.bi (Ev.ca rfl rfl (Ev.bui ok rfl rfl rfl rfl Bu.len'.1 Bu.len'.2 rfl (Evs.co rfl (Ev.lo rfl rfl (.t (.t (.t (.t (.t .h))))) rfl rfl (Evs.ni ⟨.bui,Cl.lenS (by exact szD hwl rfl) (Ev.cn 1 (Bin.subI ?_))⟩)))))))))))))
    refine rP (Wo.len _) (rP (show (((p.2.n+1:Nat):Int) - 1)=(p.2.n:Int) by exact prC _) ?_)
    refine Bin.mulS (by decide) (by have:=hcn p hpm; exact iN rfl) (by have:=hcn p hpm; exact iL (nD this rfl)) ?_
    refine rP (mul_spn _) ?_
    refine Evs.co rfl (kh ok Bu (hA'.le (by decide)) N.f7.F N.f7.g p.2 hwo rfl rfl rfl rfl rfl rfl (.t (.t (.t (.t (.t .h))))) rfl rfl (Evs.ni ⟨P.FU.kpr,Cl.of (wpush P.K ok (hA'.le (by decide)) P.FU P.ap P.apt (.t (.t (.t (.t .h)))) rfl (.t (.t (.t .h))) (by refine rP (cJ _) (rP aH ?_); have:=g.cl; exact nD (aQ this hal) rfl) ⟨rfl,?_⟩)⟩))
    refine Exs.ni (Exs.ni ⟨_,.h,rs,pre++[p],(⟨⟨[119,111,114,100]⟩⟩,.str p.2.s)::(⟨⟨[99,97,109,101]⟩⟩,.int (p.1:Int))::m,by refine rP ec ?_; simp,rfl,?_,⟨f.c,f.t,f.l,f.b,f.p⟩⟩)
    refine rP hpre (rP (aY e3) ?_)
    unfold jF
    refine rQ (List.append_assoc _ _ _) (rP (eJ _ _) ?_)
    rfl
   ·refine rP (aX (by rw [beq_iff_eq]; lia)) ?_
    refine Exs.ni (Exs.ni ⟨_,.h,rs,pre++[p],(⟨⟨[119,111,114,100]⟩⟩,.str p.2.s)::(⟨⟨[99,97,109,101]⟩⟩,.int (p.1:Int))::m,by refine rP ec ?_; simp,rfl,?_,⟨f.c,f.t,f.l,f.b,f.p⟩⟩)
    refine rP hpre (rP (aX e3) (rP (List.append_nil _) ?_))
    rfl
  rintro l ⟨rs,pre,m,ec,ed,rfl,f⟩
  induction rs using List.casesOn with
  | cons p rs=>exact nC ed
  | nil=>
  rw [List.append_nil] at ec
  subst ec
  generalize st.ds++gR cs t=ds at hnext hpok hplen
  refine Exs.co (Ex.mono (Q':=V23a P cs t st ds (pop2 ds) Lf M x dx C led) ?_ ?_)
  ·refine Ex.asgT rfl rfl (Ev.meth rfl rfl rfl rfl (Ev.lo rfl rfl (.t (.t (.t (.t .h)))) f.p rfl (Mth.pile P.K ok P.fOi P.fOt (by decide) (.t (.t .h)) (.t (.t (.t .h))) rfl (Evs.ni ⟨P.FO.kpr _,Cl.of (wpop0 P.K ok (hA'.le (by decide)) P.FO P.dfO P.kdO P.FN P.dfN P.kdN P.fNi P.fNt (.t (.t (.t .h))) rfl (.t (.t .h)) ?_ ?_ (by refine rP (cJ _) ?_; exact nD hplen rfl))⟩))))
   ·intro h0
    have hds:ds=[]:=List.eq_nil_of_length_eq_zero (by refine rQ (cJ ds) (rP h0 ?_); rfl)
    subst hds
    refine Asg.tup hA'.hh rfl rfl (Asg.lo rfl rfl (.t (.t (.t (.t .h)))) (Asg.lo rfl rfl (.t (.t (.t (.t .h)))) ⟨rfl,(sSg,.str ⟨⟨[]⟩⟩)::(sBl,.str ⟨⟨[]⟩⟩)::m,rfl,⟨f.c,f.t,f.l,f.b,f.p⟩,rfl,rfl⟩))
   ·intro es d hes
    obtain ⟨p,hp⟩:∃ p,ds.getLast? = some p:=by
     cases e4:ds.getLast? with
     | none=>
      have:=List.getLast?_eq_none_iff.mp e4
      subst this
      have:=congrArg List.length hes
      rw [cJ,aH] at this
      exact zS this
     | some p=>exact ⟨p,rfl⟩
    have h2:jE ds=jE ds.dropLast++[.tup [.str (pp p).1,.str (pp p).2]]:=by exact rQ (eJ _ _) (rQ (snoc_of hp) rfl)
    rw [h2] at hes
    obtain ⟨h3,h4⟩:=List.append_inj' hes rfl
    injection h4 with h4
    subst h3 h4
    refine ⟨jF P Lf M x dx C m st.left st.book ds.dropLast led,?_,?_⟩
    ·unfold jF; refine rP h2 ?_; exact .t (.t .h)
    have h5:pop2 ds=pp p:=by unfold pop2; exact rP hp rfl
    refine rP h5 ?_
    exact Asg.tup hA'.hh rfl rfl (Asg.lo rfl rfl (.t (.t (.t (.t .h)))) (Asg.lo rfl rfl (.t (.t (.t (.t .h)))) ⟨rfl,(sSg,.str (pp p).2)::(sBl,.str (pp p).1)::m,rfl,⟨f.c,f.t,f.l,f.b,f.p⟩,rfl,rfl⟩))
  rintro fl l ⟨rfl,m2,rfl,f2,hb1,hb2⟩
  clear f
  have ho4:∀ p∈(ek t st.book ds).1,(pw p).Ok:=by
   unfold ek
   cases e4:ds.getLast? with
   | none=>intro p hp; exact mN hp
   | some p=>
    intro q hq
    dsimp only at hq
    have hd:∀ q∈ds.dropLast,(pw q).Ok:=fun q hq=>hpok q (List.dropLast_subset _ hq)
    split at hq
    ·exact hd q hq
    ·rcases List.mem_append.mp hq with hq | hq
     ·exact hd q hq
     ·refine rP (List.mem_singleton.mp hq) ?_
      have:=(hpok p (List.mem_of_getLast? e4)).strip
      rwa [iK] at this
  have hl4:(ek t st.book ds).1.length<=61:=by
   unfold ek
   cases e4:ds.getLast? with
   | none=>exact aO _
   | some p=>
    have h1:ds.dropLast.length<=ds.length:=by refine rP List.length_dropLast ?_; exact Nat.sub_le _ _
    dsimp only
    split
    ·exact nD (nT h1 hplen) rfl
    ·refine rP aH (rP List.length_singleton ?_); exact aB (nT h1 hplen)
  refine Exs.co (Ex.mono (Q':=V23b P cs t st (ek t st.book ds) Lf M x dx C led) ?_ ?_)
  ·refine Ex.ite (Tst.cmp rfl (Ev.lo rfl rfl (.t (.t (.t (.t .h)))) hb2 rfl (Ev.cstr (Cmp.neS ⟨_,rfl,?_⟩))))
   cases e4:ds.getLast? with
   | none=>
    have hds:=List.getLast?_eq_none_iff.mp e4
    subst hds
    refine rP (aX (by decide)) ?_
    exact Exs.ni ⟨rfl,m2,rfl,f2⟩
   | some p=>
    have h5:pop2 ds=pp p:=by unfold pop2; exact rP e4 rfl
    rw [h5] at hb1 hb2 ⊢
    have hpm:=List.mem_of_getLast? e4
    have hwo:=hpok p hpm
    have hdo:∀ q∈ds.dropLast,(pw q).Ok:=fun q hq=>hpok q (List.dropLast_subset _ hq)
    have hdl:ds.dropLast.length<=60:=by refine rP List.length_dropLast ?_; exact nT (Nat.sub_le _ _) hplen
    have h6:((pp p).2 != (⟨⟨[]⟩⟩:Str))=true:=by
     refine (?_:(sg p.2 != _)=true)
     rw [bne,sg_ne]; rfl
    refine rP h6 (rP (aY rfl) ?_)
    have hpw:ek t st.book ds=(if p.1 - 1=0 then ds.dropLast else ds.dropLast++[(p.1 - 1,p.2)],jA st.book t ⟨p.1 - 1,0,p.2⟩ (ds.dropLast.map pw)):=by unfold ek; exact rP e4 rfl
    refine rP hpw ?_
    generalize ds.dropLast=init at hdo hdl
    have hf20:p.1<=20:=hwo.2.1
    refine Exs.co (Ex.asg rfl (N.f7.F.ev ok N.f7.g rfl rfl rfl rfl rfl rfl (Evs.co rfl (Ev.bi (Ev.lo rfl rfl (.t (.t (.t (.t .h)))) hb1 rfl (Ev.lo rfl rfl (.t (.t (.t (.t .h)))) hb2 rfl (Bin.addX (a:=List.replicate p.1 32) (b:=[p.2]) (by simp -iota; exact nD hf20 rfl) (Evs.co rfl (Ev.cn 1 (Evs.ni (nX ok Bu (hA'.le (by decide)) N (pw p) hwo ?_)))))))))))
    refine rP (iK _) ?_
    refine Asg.lo rfl rfl (.t (.t (.t (.t .h)))) ?_
    have hwo2:=hwo.strip
    rw [iK] at hwo2
    refine Exs.co (Ex.expr rfl rfl (N.f21.F.ev ok N.f21.g rfl rfl rfl rfl rfl rfl (Evs.co rfl (Ev.lo rfl rfl (.t (.t (.t (.t .h)))) f2.b rfl (Evs.co rfl (Ev.lo rfl rfl (.t (.t (.t (.t .h)))) f2.t rfl (Evs.co rfl (Ev.lo rfl rfl (.t (.t (.t (.t .h)))) rfl rfl (Evs.co rfl ?_)))))))))
    refine Ev.compP P ok (xs:=init.map pp) (g:=fun p=>.tup [.str p.1,.str p.2]) (p:=fun u_=>true) (f:=fun p=>.str (p.1++p.2)) hA'.hh rfl rfl (by decide) (fun u_=>rfl) ?_
    refine Ev.lo rfl rfl (.t (.t (.t (.t .h)))) f2.p rfl ⟨x,dx,_,rfl,.t (.t .h),.t (.t (.t .h)),by exact szM hdl rfl,?_,?_⟩
    ·intro acc out I X q hq C2
     obtain ⟨q0,hq0,rfl⟩:=List.mem_map.mp hq
     have hq1:=(hdo q0 hq0).2.1
     refine Asg.tup hA'.hh rfl rfl (Asg.lo rfl rfl .h (Asg.lo rfl rfl .h ⟨rfl,?_⟩))
     refine Ev.bi (Ev.lo rfl rfl .h rfl rfl (Ev.lo rfl rfl .h rfl rfl (Bin.addS ?_ ⟨rfl,.le .ns0 .rest⟩)))
     have h1:(pp q0).1.length=q0.1:=by unfold pp; exact rP (eh _) (rP List.length_replicate rfl)
     have h2:(pp q0).2.length=1:=by unfold pp sg; exact rP (bI _ _ _) rfl
     have h3:q0.1<=20:=hq1
     refine rP h1 (rP h2 (rP ai ?_)); exact nD (aB h3) rfl
    refine rP (List.filter_eq_self.mpr (fun u_ u_=>rfl)) ?_
    have es:((init.map pp).map fun p=>D.str (p.1++p.2))=strD (init.map pw):=by
     unfold strD; refine rP aG (rP aG ?_)
     exact aP fun q u_=>congrArg D.str (pp_s q)
    refine rP es ?_
    refine Evs.ni (wnote ok Bu (hA'.le (by decide)) N _ hwo2 (init.map pw) (fun w hw=>?_) (by refine rP (am _) ?_; exact nD hdl rfl) t (.inl rfl) st.book (.t .h) g.b g.by' ⟨rfl,?_⟩)
    ·obtain ⟨q,hq,rfl⟩:=List.mem_map.mp hw
     exact hdo q hq
    refine Exs.co (Ex.ite (Tst.cmp rfl (Ev.lo rfl rfl (.t (.t (.t (.t .h)))) rfl rfl (Ev.lo rfl rfl (.t (.t (.t (.t .h)))) hb2 rfl (Cmp.neS ⟨_,rfl,?_⟩)))))
    by_cases e0:p.1 - 1=0
    ·have h7:((⟨p.1 - 1,0,p.2⟩:Wo).s != (pp p).2)=false:=by refine rP e0 ?_; show ((sg p.2) != sg p.2)=false; simp -iota
     refine rP h7 (rP (aX (by decide)) (rP (aY e0) ?_))
     exact Exs.ni (Exs.ni ⟨rfl,_,rfl,⟨f2.c,f2.t,f2.l,f2.b,f2.p⟩⟩)
    ·have h7:((⟨p.1 - 1,0,p.2⟩:Wo).s != (pp p).2)=true:=by
      rw [bne,Bool.not_eq_true',beq_eq_false_iff_ne]
      intro e5
      have h8:(⟨p.1 - 1,0,p.2⟩:Wo).s.length=p.1 - 1+1:=by refine rP (Wo.len _) ?_; rfl
      have h9:(pp p).2.length=1:=by unfold pp sg; exact rP (bI _ _ _) rfl
      rw [e5,h9] at h8
      exact aN (aq h8.symm) (bn e0)
     refine rP h7 (rP (aY rfl) (rP (aX e0) ?_))
     refine Exs.co (Ex.expr rfl rfl (Ev.meth rfl rfl rfl rfl (Ev.lo rfl rfl (.t (.t (.t (.t .h)))) f2.p rfl (Mth.pile P.K ok P.fUi P.fUt (by decide) (.t (.t .h)) (.t (.t (.t .h))) rfl (Evs.co rfl (Ev.sub (Ev.lo rfl rfl (.t (.t (.t (.t .h)))) rfl rfl (Ev.slice (Part.of_none (Part.of_some (Ev.una (Ev.cn 1 (Una.negI ⟨_,rfl,Part.of_none ?_⟩)))))))))))))
     refine Sub.strS (fun u_ u_=>⟨_,rfl⟩) (by refine rP (Wo.len _) (rP ai ?_); show p.1 - 1+0+1<=_; omega) ?_
     have h8:Txt.slice (⟨p.1 - 1,0,p.2⟩:Wo).s none (some (-1))=tx (List.replicate (p.1 - 1) 32):=mi _ _
     refine rP h8 ?_
     refine Evs.co rfl (Ev.lo rfl rfl (.t (.t (.t (.t .h)))) hb2 rfl (Evs.ni ⟨P.FU.kpr,Cl.of (wpush P.K ok (hA'.le (by decide)) P.FU P.ap P.apt (.t (.t (.t .h))) rfl (.t (.t .h)) (by refine rP (cJ _) ?_; exact nD hdl rfl) ⟨rfl,?_⟩)⟩))
     refine Exs.ni (Exs.ni ⟨rfl,(⟨⟨[114,101,115,116]⟩⟩,.str (⟨p.1 - 1,0,p.2⟩:Wo).s)::m2,?_,⟨f2.c,f2.t,f2.l,f2.b,f2.p⟩⟩)
     unfold jF
     refine rP (eJ _ _) ?_
     rfl
  rintro fl l ⟨rfl,m3,rfl,f3⟩
  generalize ek t st.book ds=wk at hnext ho4 f3 hl4
  obtain ⟨ds2,b2⟩:=wk
  dsimp only at hnext f3 ho4 hl4 ⊢
  refine Exs.co (Ex.expr rfl rfl (Ev.meth rfl rfl rfl rfl (Ev.lo rfl rfl (.t (.t (.t (.t .h)))) f3.l rfl (Mth.lstM .h PySem.F.slot_list_append rfl (Evs.co rfl (Ev.bi ?_))))))
  have hsum:∀ ds2:List (Nat×Nat),(∀ p∈ds2,(pw p).Ok)->ds2.length<=61->0<=((ds2.map pp).map fun p=>((p.1.length:Int)+(p.2.length:Int))).sum/\((ds2.map pp).map fun p=>((p.1.length:Int)+(p.2.length:Int))).sum<=21*ds2.length:=fun ds2 ho hq61=>by
   induction ds2 with
   | nil=>exact ⟨by decide,by decide⟩
   | cons q l ih=>
    have ih:=ih (fun q hq=>ho q (.tail _ hq)) (by rw [aJ] at hq61; exact nL hq61)
    have h1:(pp q).1.length=q.1:=by unfold pp; exact rP (eh _) (rP List.length_replicate rfl)
    have h2:(pp q).2.length=1:=by unfold pp sg; exact rP (bI _ _ _) rfl
    have h3:q.1<=20:=(ho q (.head _)).2.1
    rw [aA,aA,List.sum_cons,h1,h2,aJ]
    lia
  have hs2:=hsum ds2 ho4 hl4
  refine Ev.ca rfl rfl (Ev.bui ok rfl rfl rfl rfl Bu.len'.1 Bu.len'.2 rfl (Evs.co rfl (Ev.lo rfl rfl (.t (.t (.t (.t .h)))) f3.p rfl (Evs.ni ⟨.bui,Cl.lenP P.K ok (.t (.t .h)) (.t (.t (.t .h))) P.fLi P.fLt (k:=((ds2.map pp).map fun p=>((p.1.length:Int)+(p.2.length:Int))).sum) ⟨hs2.1,by lia⟩ ?_⟩))))
  refine wlen P.K ok Bu ((hA'.in1 (n:=10)).le (by decide)) P.FL P.NL P.gf P.it P.ini (ds:=ds2.map pp) ?_ (.t (.t .h)) (.t (.t (.t .h))) (.t (.t (.t (.t (.t hT))))) ⟨rfl,?_⟩
  ·intro q hq
   obtain ⟨q0,hq0,rfl⟩:=List.mem_map.mp hq
   have h1:(pp q0).1.length=q0.1:=by unfold pp; exact rP (eh _) (rP List.length_replicate rfl)
   have h2:(pp q0).2.length=1:=by unfold pp sg; exact rP (bI _ _ _) rfl
   have h3:q0.1<=20:=(ho4 q0 hq0).2.1
   refine rP h1 (rP h2 ?_); exact ⟨(nD h3 rfl),(by decide)⟩
  refine Ev.meth rfl rfl rfl rfl (Ev.lo rfl rfl (.t (.t (.t (.t .h)))) f3.p rfl (Mth.pile P.K ok P.fNi P.fNt (by decide) (.t (.t .h)) (.t (.t (.t .h))) rfl (Evs.ni ⟨P.FN.kpr _,Cl.of (wcount P.K ok (hA'.le (by decide)) P.FN P.dfN P.kdN (.t (.t .h)) ?_)⟩)))
  refine rP (cJ _) ?_
  refine Bin.subI (Evs.ni ⟨.bui,Cl.append .h (by refine rP (am _) (rP ai ?_); have:=g.l; exact nD this rfl) ⟨rfl,?_⟩⟩)
  refine rP (psum_eq _) ?_
  refine Exs.co (Ex.augN (Ldn.loc rfl rfl (.t (.t (.t (.t .h)))) f3.t (Ev.cn 1 (Inp.addI (Sto.lo rfl rfl (.t (.t (.t (.t .h)))) (Exs.ni ⟨t+1,by exact Nat.sub_succ_lt_self _ _ e,by exact e,?_⟩))))))
  refine rP hnext ?_
  have e5:(List.map D.int st.left++[D.int (psum ds2)])=(st.left++[psum ds2]).map .int:=by refine rP aI ?_; rfl
  refine rP e5 ?_
  have fz:PlF ((eV,.int ((t:Int)+1))::m3) cs (t+1) Lf M x:=⟨f3.c,rfl,f3.l,f3.b,f3.p⟩
  exact .cons .h (.cons .h (.cons .h (.cons .h (.le fz.le .rest))))
 ·have e2:t=H:=by exact Nat.le_antisymm ht (aZ e)
  subst e2
  refine rP hE (ifF (by decide) ?_)
  refine Exs.co (Ex.ret (Ev.tup (Evs.co rfl (Ev.frz rfl rfl rfl rfl (.t .h) (.t (.t (.t .h))) frzD ok (Evs.co rfl (Ev.frz rfl rfl rfl rfl .h (.t (.t .h)) frzL ok (Evs.ni ⟨by refine rP ai ?_; simp,?_⟩)))))))
  exact ⟨_,.drop (.drop (.drop .rest)),h⟩
end
end
section
set_option tactic.hygienic true
noncomputable abbrev sBk':Str:=⟨⟨[98,111,111,107]⟩⟩
noncomputable abbrev sBn:Str:=⟨⟨[98,101,110,99,104]⟩⟩
noncomputable abbrev sCho:Str:=⟨⟨[99,104,111,111,115,101,114]⟩⟩
noncomputable abbrev sCmp:Str:=⟨⟨[99,111,109,112,97,114,101]⟩⟩
noncomputable abbrev sKeys:Str:=⟨⟨[107,101,121,115]⟩⟩
noncomputable def iO (x:Card):List D:=x.ns.map .int++[.str x.w.s]
noncomputable def eK (x:Card):D:=.tup (iO x)
theorem card_sc (x y:Card):Sc2 (iO x) (iO y):=⟨rfl,fun j a b h1 h2=>by
 match j with
 | 0=>cases h1; cases h2; rfl
 | 1=>cases h1; cases h2; rfl
 | 2=>cases h1; cases h2; rfl
 | 3=>cases h1; cases h2; rfl
 | n+4=>exact nS h1⟩
theorem or {x y:Card} (h:x.k≠y.k):cG (iO x) (iO y)=false:=by
 have e:((x.k:Int) == (y.k:Int))=false:=by refine rP (propext (beq_eq_false_iff_ne)) ?_; lia
 refine (?_:(List.all [(D.int x.a,D.int y.a),(D.int x.b,D.int y.b),(D.int x.k,D.int y.k),(D.str x.w.s,D.str y.w.s)] _)=false)
 refine (?_:(_ && (_ && ((some ((x.k:Int) == (y.k:Int)) == some true) && _)))=false)
 rw [e]
 exact (congrArg _ (Bool.and_false _)).trans (Bool.and_false _)
theorem kq (x:Card):cG (iO x) (iO x)=true:=by
 refine (?_:(List.all [(D.int x.a,D.int x.a),(D.int x.b,D.int x.b),(D.int x.k,D.int x.k),(D.str x.w.s,D.str x.w.s)] _)=true)
 show ((some (_ == _) == some true) && ((some (_ == _) == some true) && ((some (_ == _) == some true) && ((some (_ == _) == some true) && true))))=true
 simp only [bq,Bool.and_self]
structure Tc (c:Cst) where
 Kt:Addr
 fI:Addr
 fdI:FuncData
 f:FnAt c fI m11init.1 fdI
 mak:makesIn c.K Kt=true
 kp:keepIn c.K (.ref Kt)=true
 i:findIn c.K (.ref Kt) "__init__" = some (some (.ref fI))
 ty:typeIn c.K (.ref fI)=some (.type "function")
 s:eg c Kt sSel
 o:eF c Kt sSel
 g:c.mg ⟨⟨[84,117,112,108,101,67,111,109,112]⟩⟩=some (.ref Kt)
 fC:Addr
 fdC:FuncData
 FC:FnAt c fC m11cmp.1 fdC
 MC:nE c Kt sCmp fC
noncomputable def eX (ks:List (Nat×Int)) (t:Nat) (b:cZ):List Card->List Card×cZ
 | []=>([],b)
 | c::l=>
  let f:=bmin ks c (c::l)
  let rest:=(c::l).eraseIdx ((c::l).findIdx fun x=>x.k == f.k)
  (if (bA f.w).n=0 then rest else rest++[⟨f.a,f.b,f.k,bA f.w⟩],jA b t (bA f.w) (rest.map (·.w)))
theorem dg (cs:bw) (ks:List (Nat×Int)) (t:Nat) (s:BSt):cI cs ks t s=⟨(eX ks t s.book (s.cs++jO cs t)).1,(eX ks t s.book (s.cs++jO cs t)).2,s.left++[csum (eX ks t s.book (s.cs++jO cs t)).1]⟩:=by
 unfold cI
 cases s.cs++jO cs t <;> rfl
noncomputable def bM (cs:bw) (ks:List (Nat×Int)):Nat->BSt
 | 0=>⟨[],[],[]⟩
 | t+1=>cI cs ks t (bM cs ks t)
theorem eM (cs:bw) (ks:List (Nat×Int)):∀ t,(bM cs ks t).left.length=t
 | 0=>rfl
 | t+1=>by
  refine (?_:(cI cs ks t (bM cs ks t)).left.length=_)
  refine rP (dg _ _ _ _) ?_
  dsimp only
  refine rP aH (rP (eM cs ks t) ?_); rfl
structure BSt.Good (s:BSt):Prop where
 c:∀ x∈s.cs,x.w.Ok
 cl:s.cs.length<=50
 b:s.book.length<=100
 by':∀ k,(old s.book k).by'.length<=500
 l:s.left.length<=900
noncomputable def cardOf (p:(Nat×Wo)×Nat):Card:=⟨p.1.2.n,p.1.1,p.2,p.1.2⟩
noncomputable def dG (cs:bw) (t i:Nat):List Card:=((cs.zipIdx.take i).filter fun p=>p.1.1 == t).map cardOf
theorem gU (cs:bw) (t i:Nat) (h:cs.length<=i):dG cs t i=jO cs t:=by
 unfold dG
 refine rP (List.take_of_length_le (by rw [List.length_zipIdx]; exact h)) ?_; rfl
theorem kr (cs:bw) (t i:Nat) (h:i<cs.length):dG cs t (i+1)=dG cs t i++if cs[i].1=t then [cardOf (cs[i],i)] else []:=by
 unfold dG
 refine rP (List.take_succ_eq_append_getElem (by rw [List.length_zipIdx]; exact h)) (rP (List.filter_append _ _) (rP aI (rP (List.getElem_zipIdx _) (rP List.filter_cons (rP (Nat.zero_add _) ?_)))))
 by_cases e:cs[i].1=t
 ·refine rP (aY (beq_iff_eq.mpr e)) (rP (aY e) ?_); rfl
 ·refine rP (aX (fun x=>e (beq_iff_eq.mp x))) (rP (aX e) ?_); rfl
theorem gV (cs:bw) (t i:Nat):(dG cs t i).length<=cs.length:=by
 unfold dG
 refine rP (am _) ?_
 refine Nat.le_trans (bi _ _) ?_
 refine rP List.length_take (rP List.length_zipIdx ?_); exact Nat.min_le_right _ _
theorem barr_ok {cs:bw} (h:km cs) (t:Nat):∀ x∈jO cs t,x.w.Ok:=by
 intro x hx
 unfold jO at hx
 obtain ⟨p,hp,rfl⟩:=List.mem_map.mp hx
 have:=(List.mem_filter.mp hp).1
 obtain ⟨i,hi,e⟩:=List.mem_iff_getElem.mp this
 rw [List.getElem_zipIdx] at e
 subst e
 exact h.ok _ (List.getElem_mem _)
theorem iP (ks:List (Nat×Int)):∀ (l:List Card) (c:Card),l.foldl (fun f x=>if cX x.ns f.ns ks<0 then x else f) c∈c::l
 | [],c=>.head _
 | x::l,c=>by
  refine rP List.foldl_cons ?_
  have:=iP ks l (if cX x.ns c.ns ks<0 then x else c)
  split
  ·rename_i e
   rw [aY e] at this
   exact .tail _ this
  ·rename_i e
   rw [aX e] at this
   rcases List.mem_cons.mp this with h | h
   ·refine rP h ?_; exact .head _
   ·exact .tail _ (.tail _ h)
theorem inj_k:∀ {l:List Card},(l.map (·.k)).Nodup->∀ {x y:Card},x∈l->y∈l->x.k=y.k->x=y
 | [],_,x,y,h,_,_=>by exact mN h
 | z::l,hn,x,y,hx,hy,e=>by
  rw [aA,List.nodup_cons] at hn
  rcases List.mem_cons.mp hx with h1 | h1
  ·rcases List.mem_cons.mp hy with h2 | h2
   ·exact rP h1 (rP h2 rfl)
   ·exact absurd (List.mem_map.mpr ⟨y,h2,by exact rQ e (rP h1 rfl)⟩) hn.1
  ·rcases List.mem_cons.mp hy with h2 | h2
   ·exact absurd (List.mem_map.mpr ⟨x,h1,by exact rP e (rP h2 rfl)⟩) hn.1
   ·exact inj_k hn.2 h1 h2 e
structure BF (m:List (Str×D)) (cs:bw) (t:Nat) (Lf M Bn Kt dx:Addr):Prop where
 c:m.lookup mz=some (kl cs)
 t:m.lookup eV=some (.int (t:Int))
 l:m.lookup iC=some (.ref Lf)
 b:m.lookup sBk'=some (.ref M)
 n:m.lookup sBn=some (.ref Bn)
 o:m.lookup sCho=some (.obj (instObj Kt dx))
noncomputable def iQ (cs:bw) (t:Nat) (Lf M Bn Kt dx:Addr):List (Str×D):=[(eV,.int (t:Int)),(iC,.ref Lf),(sBk',.ref M),(sBn,.ref Bn),(sCho,.obj (instObj Kt dx)),(mz,kl cs)]
theorem BF.le {m:List (Str×D)}{cs:bw}{t:Nat}{Lf M Bn Kt dx:Addr} (f:BF m cs t Lf M Bn Kt dx):Ch.Le (.ns m) (.ns (iQ cs t Lf M Bn Kt dx)):=.all <| by
 intro p hp
 simp only [iQ,List.mem_cons,List.not_mem_nil,or_false] at hp
 rcases hp with rfl | rfl | rfl | rfl | rfl | rfl
 ·exact f.t
 ·exact f.l
 ·exact f.b
 ·exact f.n
 ·exact f.o
 ·exact f.c
theorem BF.of (cs:bw) (t:Nat) (Lf M Bn Kt dx:Addr):BF (iQ cs t Lf M Bn Kt dx) cs t Lf M Bn Kt dx:=⟨rfl,rfl,rfl,rfl,rfl,rfl⟩
section
variable {c:Cst}{A:Around}{led:Led}{Q:D->Led->Prop}{a:Addr}{fd:FuncData}
theorem Tc.new (T:Tc c) (ok:c.Ok) (hA:Aok A 4) (d:D) (h:∀ dx,Q (.obj (instObj T.Kt dx)) ((dx,.dic [(sSel,d)])::led)):Cl c A (.ref T.Kt) [d] led Q:=
 Cl.of (Cc.cls ok hA T.mak T.i T.ty fun dx A' hA'=>w11init ok hA' T.f T.s d .h ⟨rfl,h dx⟩)
noncomputable def gW (Lf M Bn dx C:Addr) (m:List (Str×D)) (left:List Int) (b:cZ) (cards:List Card) (ks:List (Nat×Int)) (led:Led):Led:=
 (Lf,.lst (left.map .int))::(M,.dic (cr b))::(Bn,.lst (cards.map eK))::(dx,.dic [(sSel,.tup (keyD ks))])::(C,.ns m)::led
inductive V24a {c:Cst} (T:Tc c) (cs:bw) (ks:List (Nat×Int)) (t:Nat) (st:BSt) (Lf M Bn dx C:Addr) (led:Led) (ds:List D) (l:Led):Prop
 | mk (i:Nat) (m:List (Str×D)):ds=((List.range cs.length).drop i).map (fun j:Nat=>D.int (j:Int))->i<=cs.length->l=gW Lf M Bn dx C m st.left st.book (st.cs++dG cs t i) ks led->BF m cs t Lf M Bn T.Kt dx->V24a T cs ks t st Lf M Bn dx C led ds l
inductive V24b {c:Cst} (T:Tc c) (cs:bw) (ks:List (Nat×Int)) (t:Nat) (st:BSt) (x0:Card) (l0:List Card) (Lf M Bn dx C:Addr) (led:Led) (ds:List D) (l:Led):Prop
 | mk (rs:List Card) (fx:Card) (m:List (Str×D)):ds=rs.map eK->rs <:+ (x0::l0)->l=gW Lf M Bn dx C m st.left st.book (x0::l0) ks led->BF m cs t Lf M Bn T.Kt dx->m.lookup ⟨⟨[102,105,114,115,116]⟩⟩=some (eK fx)->rs.foldl (fun f x=>if cX x.ns f.ns ks<0 then x else f) fx=bmin ks x0 (x0::l0)->V24b T cs ks t st x0 l0 Lf M Bn dx C led ds l
inductive V24c {c:Cst} (T:Tc c) (cs:bw) (ks:List (Nat×Int)) (t:Nat) (st:BSt) (p:List Card×cZ) (Lf M Bn dx C:Addr) (led:Led) (f:Fl) (l:Led):Prop
 | mk:f = .next->∀ (m:List (Str×D)),l=gW Lf M Bn dx C m st.left p.2 p.1 ks led->BF m cs t Lf M Bn T.Kt dx->V24c T cs ks t st p Lf M Bn dx C led f l
theorem w24 (ok:c.Ok) (Bu:Bui c) (hA:Aok A 9) (F:FnAt c a t24.1 fd) (T:Tc c) (N:Nt c) (cs:bw) (hc:km cs) (ks:List (Nat×Int)) (hks:∀ k∈ks,k.1<3) (H:Nat) (hH:∀ t<H,tst cs t (bM cs ks t).left=true) (hE:tst cs H (bM cs ks H).left=false)
  (hg:∀ t≤H,(bM cs ks t).Good) (hnd:∀ t<H,(((bM cs ks t).cs++jO cs t).map (·.k)).Nodup)
  (h:Q (.tup [.dic (cr (bM cs ks H).book),.lst ((bM cs ks H).left.map .int)]) led):Cc c A (.ref a) [kl cs,.tup (keyD ks)] led Q:=by
 refine F.call ok hA (F.bind2 (x:=mz) (y:=sKeys) fun v u=>fun u_ u_ u_ u_ u_ u_ u_ u_ u_ u_ u_ u_=>rfl) rfl rfl ?_
 intro C A' hA'
 have hu:A'.units+1<cLine:=by have:=hA'.hu; unfold cLine; exact nD (aB (aB (nR this))) rfl
 refine Sto.lo rfl rfl .h (Sto.lo rfl rfl .h ?_)
 refine Exs.co (Ex.asg rfl (Ev.ca rfl rfl (Ev.glo ok rfl rfl rfl T.g rfl (Evs.co rfl (Ev.lo rfl rfl .h rfl rfl (Evs.ni ⟨.cls ok T.kp,T.new ok (hA'.le (by decide)) _ fun dx=>?_⟩))))))
 refine Asg.lo rfl rfl (.t .h) ?_
 refine Exs.co (Ex.asg rfl (Ev.lstM (Evs.ni ⟨by rw [ai]; decide,fun Bn=>Asg.lo rfl rfl (.t (.t .h)) ?_⟩)))
 refine Exs.co (Ex.asg rfl (Ev.dicM fun M=>Asg.lo rfl rfl (.t (.t (.t .h))) ?_))
 refine Exs.co (Ex.asg rfl (Ev.lstM (Evs.ni ⟨by rw [ai]; decide,fun Lf=>Asg.lo rfl rfl (.t (.t (.t (.t .h)))) ?_⟩)))
 refine Exs.co (Ex.asg rfl (Ev.cn 0 (Asg.lo rfl rfl (.t (.t (.t (.t .h)))) ?_)))
 refine Exs.co (Ex.whileW (α:=Nat) (fun t=>gW Lf M Bn dx C (iQ cs t Lf M Bn T.Kt dx) (bM cs ks t).left (bM cs ks t).book (bM cs ks t).cs ks led) (fun t=>t<=H) (fun t=>H - t) 0 ?_ (by exact aO _) ?_)
 ·exact .cons .h (.cons .h (.cons .h (.cons .h (.le (BF.le ⟨rfl,rfl,rfl,rfl,rfl,rfl⟩) .rest))))
 intro t ht
 have g:=hg t ht
 have gl:(bM cs ks t).left=[]->t<=lastT cs:=by
  intro e
  have:=eM cs ks t
  rw [e] at this
  have:t=0:=this.symm
  exact nT (aq this) (aO _)
 refine Tst.run rfl rfl rfl rfl (.t (.t (.t (.t .h)))) rfl rfl rfl .h hc.n0 (by have:=hc.n4; exact nD this rfl) (by have:=g.l; exact nD this rfl) gl ?_
 by_cases e:t<H
 ·refine rP (hH t e) (rP (aY rfl) ?_)
  have hnext:bM cs ks (t+1)=cI cs ks t (bM cs ks t):=rfl
  have nd:=hnd t e
  rw [dg] at hnext
  generalize bM cs ks t=st at g gl hnext nd
  have hcok:∀ x∈st.cs++jO cs t,x.w.Ok:=fun w hw=>(List.mem_append.mp hw).elim (g.c w) (barr_ok hc t w)
  have hclen:(st.cs++jO cs t).length<=60:=by
   have h1:=gV cs t cs.length
   rw [gU cs t _ (aC _)] at h1
   refine rP aH ?_; have:=g.cl; have:=hc.n4; lia
  refine Exs.co (Ex.forO (ds:=(List.range cs.length).map fun j:Nat=>.int (j:Int)) hA'.hh (fun u_=>rfl) ?_)
  refine Ev.ca rfl rfl (Ev.bui ok rfl rfl rfl rfl Bu.range'.1 Bu.range'.2 rfl (Evs.co rfl (Ev.ca rfl rfl (Ev.bui ok rfl rfl rfl rfl Bu.len'.1 Bu.len'.2 rfl (Evs.co rfl (Ev.lo rfl rfl (.t (.t (.t (.t .h)))) rfl rfl (Evs.ni ⟨.bui,?_⟩)))))))
  refine Cl.lenL (by refine rP (am _) (rP ai ?_); have:=hc.n4; exact nD this rfl) (Evs.ni ⟨.typ,Cl.rng1 ?_⟩)
  refine rP (am _) ?_
  refine ⟨.rng (by have:=hc.n4; exact nD this rfl),V24a T cs ks t st Lf M Bn dx C led,⟨0,_,rfl,by exact aO _,by unfold dG; simp,.of ..⟩,?_,?_⟩
  ·rintro d rest l I ⟨i,m,ed,hi,rfl,f⟩
   have hil:i<cs.length:=by
    rcases Nat.lt_or_ge i cs.length with h1 | h1
    ·exact h1
    ·rw [List.drop_of_length_le (by refine rP aM ?_; exact h1)] at ed; exact cN' ed
   rw [List.drop_eq_getElem_cons (by refine rP aM ?_; exact hil),List.getElem_range,aA] at ed
   injection ed with ed1 ed2
   subst ed1 ed2
   refine Asg.lo rfl rfl (.t (.t (.t (.t (.t .h))))) ?_
   refine Exs.co (Ex.asgT rfl rfl (Ev.sub (Ev.lo rfl rfl (.t (.t (.t (.t (.t .h))))) f.c rfl (Ev.lo rfl rfl (.t (.t (.t (.t (.t .h))))) rfl rfl ?_))))
   refine Sub.lst (d:=.tup [.int (cs[i].1:Int),.str cs[i].2.s]) (fun u_ u_=>rfl) (by refine rP (am _) (rP ai ?_); have:=hc.n4; exact nD this rfl) (by exact iM) (by refine rP (am _) ?_; exact iT hil) (by refine rP cq (rP aK (rP (ao hil) ?_)); rfl) ?_
   refine Asg.tup hA'.hh rfl rfl (Asg.lo rfl rfl (.t (.t (.t (.t (.t .h))))) (Asg.lo rfl rfl (.t (.t (.t (.t (.t .h))))) ?_))
   refine Exs.co (Ex.ite (Tst.cmp rfl (Ev.lo rfl rfl (.t (.t (.t (.t (.t .h))))) rfl rfl (Ev.lo rfl rfl (.t (.t (.t (.t (.t .h))))) f.t rfl (Cmp.eqI ⟨_,rfl,?_⟩)))))
   have hpre:=kr cs t i hil
   have hal:=gV cs t i
   have hwo:=hc.ok _ (List.getElem_mem hil)
   by_cases e3:cs[i].1=t
   ·refine rP (aY (by rw [beq_iff_eq]; exact cN e3)) ?_
    refine Exs.co (Ex.expr rfl rfl (Ev.meth rfl rfl rfl rfl (Ev.lo rfl rfl (.t (.t (.t (.t (.t .h))))) f.n rfl (Mth.lstM (.t (.t (.t .h))) PySem.F.slot_list_append rfl (Evs.co rfl (Ev.tup (Evs.co rfl (Ev.bi (Ev.ca rfl rfl (Ev.bui ok rfl rfl rfl rfl Bu.len'.1 Bu.len'.2 rfl (Evs.co rfl (Ev.lo rfl rfl (.t (.t (.t (.t (.t .h))))) rfl rfl (Evs.ni ⟨.bui,Cl.lenS ?_ (Ev.cn 1 (Bin.subI ?_))⟩)))))))))))))
    ·refine rP (Wo.len _) (rP ai ?_); have:=hwo.2.1; have:=hwo.2.2; unfold Wo.n; lia
    refine rP (Wo.len _) (rP (show (((cs[i].2.n+1:Nat):Int) - 1)=(cs[i].2.n:Int) by exact prC _) ?_)
    refine Evs.co rfl (Ev.lo rfl rfl (.t (.t (.t (.t (.t .h))))) rfl rfl (Evs.co rfl (Ev.lo rfl rfl (.t (.t (.t (.t (.t .h))))) rfl rfl (Evs.co rfl (Ev.lo rfl rfl (.t (.t (.t (.t (.t .h))))) rfl rfl (Evs.ni ⟨by refine rP ai ?_; simp,Evs.ni ⟨.bui,Cl.append (.t (.t (.t .h))) ?_ ⟨rfl,?_⟩⟩⟩))))))
    ·refine rP (am _) (rP aH (rP ai ?_)); have:=g.cl; have:=hc.n4; lia
    refine Exs.ni (Exs.ni ⟨_,.h,i+1,(⟨⟨[119,111,114,100]⟩⟩,.str cs[i].2.s)::(⟨⟨[99,97,109,101]⟩⟩,.int (cs[i].1:Int))::(⟨⟨[112,108,97,99,101]⟩⟩,.int (i:Int))::m,rfl,hil,?_,⟨f.c,f.t,f.l,f.b,f.n,f.o⟩⟩)
    refine rP hpre (rP (aY e3) ?_)
    unfold gW
    refine rQ (List.append_assoc _ _ _) (rP (aI (l₁:=st.cs++dG cs t i)) ?_)
    rfl
   ·refine rP (aX (by rw [beq_iff_eq]; lia)) ?_
    refine Exs.ni (Exs.ni ⟨_,.h,i+1,(⟨⟨[119,111,114,100]⟩⟩,.str cs[i].2.s)::(⟨⟨[99,97,109,101]⟩⟩,.int (cs[i].1:Int))::(⟨⟨[112,108,97,99,101]⟩⟩,.int (i:Int))::m,rfl,hil,?_,⟨f.c,f.t,f.l,f.b,f.n,f.o⟩⟩)
    refine rP hpre (rP (aX e3) (rP (List.append_nil _) ?_))
    rfl
  rintro l ⟨i,m,ed,hi,rfl,f⟩
  have hil:cs.length<=i:=by
   rcases Nat.lt_or_ge i cs.length with h1 | h1
   ·rw [List.drop_eq_getElem_cons (by refine rP aM ?_; exact h1)] at ed; exact nC ed
   ·exact h1
  refine rP (gU cs t i hil) ?_
  generalize st.cs++jO cs t=all at hnext hcok hclen nd
  refine Exs.co (Ex.mono (Q':=V24c T cs ks t st (eX ks t st.book all) Lf M Bn dx C led) ?_ ?_)
  ·refine Ex.ite (Tst.cmp rfl (Ev.lo rfl rfl (.t (.t (.t (.t .h)))) f.n rfl (Ev.lst (Evs.ni ⟨by rw [ai]; decide,Cmp.ne0M (.t (.t .h)) (by exact nL hu) ⟨_,rfl,?_⟩⟩))))
   refine rP List.isEmpty_map ?_
   induction all using List.casesOn with
   | nil=>
    refine ifF (by decide) ?_
    exact Exs.ni ⟨rfl,m,rfl,f⟩
   | cons x0 l0=>
    refine rP List.isEmpty_cons (rP Bool.not_false (ifT rfl ?_))
    have hfm:=iP ks (x0::l0) x0
    have hfm2:bmin ks x0 (x0::l0)∈x0::l0:=by
     rcases List.mem_cons.mp hfm with h1 | h1
     ·show List.foldl _ _ _∈_; refine rP h1 ?_; exact .head _
     ·exact h1
    clear hfm
    have hzl:((x0::l0).map eK).length<=60:=by refine rP (am _) ?_; exact hclen
    refine Exs.co (Ex.asg rfl (Ev.sub (Ev.lo rfl rfl (.t (.t (.t (.t .h)))) f.n rfl (Ev.cn 0 (Sub.lstL (d:=eK x0) (fun u_ u_=>rfl) (.t (.t .h)) (by refine rP ai ?_; exact nD hzl rfl) (by lia) (by refine rP (am _) (rP aJ ?_); exact iT (Nat.le_add_left _ _)) rfl ?_)))))
    refine Asg.lo rfl rfl (.t (.t (.t (.t .h)))) ?_
    refine Exs.co (Oth.for_ (all:=(x0::l0).map eK) (o:=.ref Bn) hA'.hh (fun u_=>rfl) (.inr ⟨Bn,rfl,.t (.t .h)⟩) (Ev.lo rfl rfl (.t (.t (.t (.t .h)))) f.n rfl ⟨rfl,.inr ⟨Bn,rfl,.t (.t .h)⟩,
     V24b T cs ks t st x0 l0 Lf M Bn dx C led,
     ⟨x0::l0,x0,_,rfl,List.suffix_refl _,rfl,⟨f.c,f.t,f.l,f.b,f.n,f.o⟩,rfl,rfl⟩,?_,?_,?_⟩))
    ·rintro ds l ⟨rs,fx,m,rfl,hsf,rfl,f,hf,hfo⟩
     exact ⟨.inr ⟨Bn,rfl,.t (.t .h)⟩,hsf.map _⟩
    ·rintro d rest l I X ⟨rs,fx,m,ed,hsf,rfl,f,hf,hfo⟩
     induction rs using List.casesOn with
     | nil=>exact cN' ed
     | cons x rs=>
     cases ed
     refine Asg.lo rfl rfl (.t (.t (.t (.t (.t .h))))) ?_
     refine Exs.co (Ex.ite (Tst.cmp rfl (Ev.meth rfl rfl rfl rfl (Ev.lo rfl rfl (.t (.t (.t (.t (.t .h))))) f.o rfl (Mth.inst ok T.MC.g T.MC.fi T.MC.fn (.t (.t (.t (.t .h)))) rfl (Evs.co rfl (Ev.lo rfl rfl (.t (.t (.t (.t (.t .h))))) rfl rfl (Evs.co rfl (Ev.lo rfl rfl (.t (.t (.t (.t (.t .h))))) hf rfl (Evs.ni ⟨T.FC.kpr,Cl.of ?_⟩))))))))))
     refine w11 ok (hA'.le (by decide)) T.FC T.o (.t (.t (.t (.t .h)))) ks rfl x.ns fx.ns [.str x.w.s] [.str fx.w.s] (by show 4<=100; decide) (by show 4<=100; decide) (fun k hk=>⟨hks k hk,hks k hk⟩) ?_
     refine Ev.cn 0 (Cmp.ltI ⟨_,rfl,?_⟩)
     rw [List.foldl_cons] at hfo
     by_cases e3:cX x.ns fx.ns ks<0
     ·refine ifT (be e3) ?_
      rw [aY e3] at hfo
      refine Exs.co (Ex.asg rfl (Ev.lo rfl rfl (.t (.t (.t (.t (.t .h))))) rfl rfl (Asg.lo rfl rfl (.t (.t (.t (.t (.t .h))))) (Exs.ni (Exs.ni ⟨_,.h,rs,x,(⟨⟨[102,105,114,115,116]⟩⟩,eK x)::(⟨⟨[99,97,114,100]⟩⟩,eK x)::m,rfl,(List.suffix_cons _ _).trans hsf,rfl,⟨f.c,f.t,f.l,f.b,f.n,f.o⟩,rfl,hfo⟩)))))
     ·refine ifF (by rw [decide_eq_true_iff]; exact e3) ?_
      rw [aX e3] at hfo
      exact Exs.ni (Exs.ni ⟨_,.h,rs,fx,(⟨⟨[99,97,114,100]⟩⟩,eK x)::m,rfl,(List.suffix_cons _ _).trans hsf,rfl,⟨f.c,f.t,f.l,f.b,f.n,f.o⟩,hf,hfo⟩)
    rintro l ⟨rs,fx,m,ed,hsf,rfl,f,hf,hfo⟩
    induction rs using List.casesOn with
    | cons x rs=>exact nC ed
    | nil=>
    replace hfo:fx=bmin ks x0 (x0::l0):=hfo
    have hb:eX ks t st.book (x0::l0)=(if (bA fx.w).n=0 then (x0::l0).eraseIdx ((x0::l0).findIdx fun x=>x.k == fx.k) else (x0::l0).eraseIdx ((x0::l0).findIdx fun x=>x.k == fx.k)++[⟨fx.a,fx.b,fx.k,bA fx.w⟩],jA st.book t (bA fx.w) (((x0::l0).eraseIdx ((x0::l0).findIdx fun x=>x.k == fx.k)).map (·.w))):=by
     refine rP hfo ?_; rfl
    refine rP hb ?_
    rw [<- hfo] at hfm2
    clear hfo hb ed hsf
    generalize x0::l0=all at hfm2 hzl hclen hcok nd
    generalize hj:(all.findIdx fun x=>x.k == fx.k)=j
    have hjl:j<all.length:=by refine rQ hj ?_; exact List.findIdx_lt_length_of_exists ⟨fx,hfm2,bq _⟩
    have hjk:all[j].k=fx.k:=by
     have:=List.findIdx_getElem (p:=fun x:Card=>x.k == fx.k) (xs:=all) (w:=by refine rP hj ?_; exact hjl)
     have h2:=beq_iff_eq.mp this
     have h3:all[all.findIdx fun x=>x.k == fx.k]'(by refine rP hj ?_; exact hjl)=all[j]:=by congr 1
     rw [h3] at h2; exact h2
    have hje:all[j]=fx:=inj_k nd (List.getElem_mem _) hfm2 hjk
    have hwo:=hcok fx hfm2
    refine Exs.co (Ex.expr rfl rfl (Ev.meth rfl rfl rfl rfl (Ev.lo rfl rfl (.t (.t (.t (.t .h)))) f.n rfl (Mth.lstM (.t (.t .h)) PySem.F.slot_list_remove rfl (Evs.co rfl (Ev.lo rfl rfl (.t (.t (.t (.t .h)))) hf rfl (Evs.ni ⟨.bui,Cl.remove (m:=iO fx) j (by refine rP (am _) ?_; exact hjl) (.t (.t .h)) (by refine rP ai ?_; exact nD hzl rfl) hu ?_ ⟨rfl,?_⟩⟩)))))))
    ·intro i d hd hij
     rw [aK] at hd
     have hil:i<all.length:=by exact Nat.lt_of_le_of_lt hij (by assumption)
     rw [ao hil] at hd
     cases hd
     refine ⟨iO all[i],rfl,card_sc _ _,?_⟩
     by_cases e3:i=j
     ·subst e3
      exact rP hje (rP (kq _) (rP (be rfl) rfl))
     ·refine rP (bf e3) ?_
      refine or fun hk=>?_
      have hlt:i<all.findIdx fun x=>x.k == fx.k:=by refine rP hj ?_; exact ltNe2 hij (by assumption)
      exact absurd (beq_iff_eq.mpr hk) (by have:=List.not_of_lt_findIdx hlt; simpa using this)
    have he:(all.map eK).eraseIdx j=(all.eraseIdx j).map eK:=by
     exact rP (List.eraseIdx_eq_take_drop_succ _ _) (rP (List.eraseIdx_eq_take_drop_succ _ _) (rP aI (rP List.map_take (rP List.map_drop rfl))))
    refine rP he ?_
    have hro:∀ x∈all.eraseIdx j,x.w.Ok:=fun x hx=>hcok x ((List.eraseIdx_sublist _ _).subset hx)
    have hrl:(all.eraseIdx j).length<=60:=Nat.le_trans (List.eraseIdx_sublist _ _).length_le hclen
    generalize all.eraseIdx j=rest at hro hrl
    refine Exs.co (Ex.asg rfl (N.f7.F.ev ok N.f7.g rfl rfl rfl rfl rfl rfl (Evs.co rfl (Ev.sub (Ev.lo rfl rfl (.t (.t (.t (.t .h)))) hf rfl (Ev.cn 3 (Sub.tup (d:=.str fx.w.s) (fun u_ u_=>rfl) (by refine rP ai ?_; show 4<=_; decide) (by show -((4:Nat):Int)<=_; decide) (by show _<((4:Nat):Int); omega) rfl (Evs.co rfl (Ev.cn 1 (Evs.ni (nX ok Bu (hA'.le (by omega)) N fx.w hwo ?_)))))))))))
    refine Asg.lo rfl rfl (.t (.t (.t (.t .h)))) ?_
    refine Exs.co (Ex.expr rfl rfl (N.f21.F.ev ok N.f21.g rfl rfl rfl rfl rfl rfl (Evs.co rfl (Ev.lo rfl rfl (.t (.t (.t (.t .h)))) f.b rfl (Evs.co rfl (Ev.lo rfl rfl (.t (.t (.t (.t .h)))) f.t rfl (Evs.co rfl (Ev.lo rfl rfl (.t (.t (.t (.t .h)))) rfl rfl (Evs.co rfl ?_)))))))))
    refine Ev.compM (xs:=rest) (g:=eK) (p:=fun u_=>true) (f:=fun x=>.str x.w.s) hA'.hh rfl rfl (by decide) (fun u_=>rfl) ?_
    refine Ev.lo rfl rfl (.t (.t (.t (.t .h)))) f.n rfl ⟨Bn,rfl,.t (.t .h),by refine rP ai ?_; omega,?_,?_⟩
    ·intro acc out I X x hx C2
     exact Asg.lo rfl rfl .h ⟨rfl,Ev.sub (Ev.lo rfl rfl .h rfl rfl (Ev.cn 3 (Sub.tup (d:=.str x.w.s) (fun u_ u_=>rfl) (by refine rP ai ?_; show 4<=_; omega) (by show -((4:Nat):Int)<=_; omega) (by show _<((4:Nat):Int); omega) rfl ⟨rfl,.le .ns0 .rest⟩)))⟩
    refine rP (List.filter_eq_self.mpr (fun u_ u_=>rfl)) ?_
    have es:(rest.map fun x=>D.str x.w.s)=strD (rest.map (·.w)):=by unfold strD; refine rP aG ?_; rfl
    refine rP es ?_
    refine Evs.ni (wnote ok Bu (hA'.le (by omega)) N _ hwo.strip (rest.map (·.w)) (fun w hw=>?_) (by refine rP (am _) ?_; omega) t (.inl rfl) st.book (.t .h) g.b g.by' ⟨rfl,?_⟩)
    ·obtain ⟨x,hx,rfl⟩:=List.mem_map.mp hw
     exact hro x hx
    refine Exs.co (Ex.ite (Tst.cmp rfl (Ev.ca rfl rfl (Ev.bui ok rfl rfl rfl rfl Bu.len'.1 Bu.len'.2 rfl (Evs.co rfl (Ev.lo rfl rfl (.t (.t (.t (.t .h)))) rfl rfl (Evs.ni ⟨.bui,Cl.lenS ?_ (Ev.cn 1 (Cmp.gtI ⟨_,rfl,?_⟩))⟩)))))))
    ·refine rP (Wo.len _) (rP ai ?_); have:=hwo.strip.2.1; have:=hwo.strip.2.2; unfold Wo.n; omega
    refine rP (Wo.len _) ?_
    by_cases e0:(bA fx.w).n=0
    ·refine ifF (by rw [decide_eq_true_iff]; omega) ?_
     refine rP (aY e0) ?_
     exact Exs.ni (Exs.ni ⟨rfl,_,rfl,⟨f.c,f.t,f.l,f.b,f.n,f.o⟩⟩)
    ·refine ifT (by rw [decide_eq_true_iff]; omega) ?_
     refine rP (aX e0) ?_
     refine Exs.co (Ex.expr rfl rfl (Ev.meth rfl rfl rfl rfl (Ev.lo rfl rfl (.t (.t (.t (.t .h)))) f.n rfl (Mth.lstM (.t (.t .h)) PySem.F.slot_list_append rfl (Evs.co rfl (Ev.bi (Ev.sub (Ev.lo rfl rfl (.t (.t (.t (.t .h)))) hf rfl (Ev.slice (Part.of_none (Part.of_some (Ev.cn 3 ⟨_,rfl,Part.of_none ?_⟩))))))))))))
     refine Sub.tup3 (d0:=.int fx.a) (d1:=.int fx.b) (d2:=.int fx.k) (d3:=.str fx.w.s) (fun u_ u_=>⟨_,rfl⟩) ?_
     refine Ev.tup (Evs.co rfl (Ev.lo rfl rfl (.t (.t (.t (.t .h)))) rfl rfl (Evs.ni ⟨by refine rP ai ?_; simp,Bin.addT (by refine rP ai ?_; simp) (by simp) (by simp) (Evs.ni ⟨.bui,Cl.append (.t (.t .h)) (by refine rP (am _) (rP ai ?_); omega) ⟨rfl,?_⟩⟩)⟩)))
     refine Exs.ni (Exs.ni ⟨rfl,(⟨⟨[114,101,115,116]⟩⟩,.str (bA fx.w).s)::m,?_,⟨f.c,f.t,f.l,f.b,f.n,f.o⟩⟩)
     unfold gW
     dsimp only
     refine rP aI ?_
     rfl
  rintro fl l ⟨rfl,m3,rfl,f3⟩
  have ho4:∀ x∈(eX ks t st.book all).1,x.w.Ok:=by
   induction all using List.casesOn with
   | nil=>intro x h1; exact mN h1
   | cons x0 l0=>
    have hfm2:bmin ks x0 (x0::l0)∈x0::l0:=by
     rcases List.mem_cons.mp (iP ks (x0::l0) x0) with h1 | h1
     ·show List.foldl _ _ _∈_; refine rP h1 ?_; exact .head _
     ·exact h1
    intro x h1
    dsimp only [eX] at h1
    split at h1
    ·exact hcok x ((List.eraseIdx_sublist _ _).subset h1)
    ·rcases List.mem_append.mp h1 with h1 | h1
     ·exact hcok x ((List.eraseIdx_sublist _ _).subset h1)
     ·refine rP (List.mem_singleton.mp h1) ?_
      exact (hcok _ hfm2).strip
  have hl4:(eX ks t st.book all).1.length<=61:=by
   induction all using List.casesOn with
   | nil=>exact aO _
   | cons x0 l0=>
    dsimp only [eX]
    have:=(List.eraseIdx_sublist (x0::l0) ((x0::l0).findIdx fun x=>x.k == (bmin ks x0 (x0::l0)).k)).length_le
    split
    ·omega
    ·refine rP aH (rP List.length_singleton ?_); omega
  generalize eX ks t st.book all=wk at hnext ho4 f3 hl4
  obtain ⟨cards,b2⟩:=wk
  dsimp only at hnext f3 ho4 hl4 ⊢
  refine Exs.co (Ex.expr rfl rfl (Ev.meth rfl rfl rfl rfl (Ev.lo rfl rfl (.t (.t (.t (.t .h)))) f3.l rfl (Mth.lstM .h PySem.F.slot_list_append rfl (Evs.co rfl ?_)))))
  refine Ev.ca rfl rfl (Ev.bui ok rfl rfl rfl rfl Bu.sum'.1 Bu.sum'.2 rfl (Evs.co rfl ?_))
  refine Ev.compM (xs:=cards) (g:=eK) (p:=fun u_=>true) (f:=fun x=>.int (x.w.n:Int)) hA'.hh rfl rfl (by decide) (fun u_=>rfl) ?_
  refine Ev.lo rfl rfl (.t (.t (.t (.t .h)))) f3.n rfl ⟨Bn,rfl,.t (.t .h),by refine rP ai ?_; omega,?_,?_⟩
  ·intro acc out I X x hx C2
   have hwo:=ho4 x hx
   refine Asg.lo rfl rfl .h ⟨rfl,?_⟩
   refine Ev.bi (Ev.ca rfl rfl (Ev.bui ok rfl rfl rfl rfl Bu.len'.1 Bu.len'.2 rfl (Evs.co rfl (Ev.sub (Ev.lo rfl rfl .h rfl rfl (Ev.cn 3 (Sub.tup (d:=.str x.w.s) (fun u_ u_=>rfl) (by refine rP ai ?_; show 4<=_; omega) (by show -((4:Nat):Int)<=_; omega) (by show _<((4:Nat):Int); omega) rfl (Evs.ni ⟨.bui,Cl.lenS ?_ (Ev.cn 1 (Bin.subI ⟨?_,.le .ns0 .rest⟩))⟩))))))))
   ·refine rP (Wo.len _) (rP ai ?_); have:=hwo.2.1; have:=hwo.2.2; unfold Wo.n; omega
   ·refine rP (Wo.len _) ?_; congr 1; omega
  refine rP (List.filter_eq_self.mpr (fun u_ u_=>rfl)) (rP (show (fun x:Card=>D.int (x.w.n:Int))=D.int∘(fun x:Card=>(x.w.n:Int)) from rfl) (rQ aG ?_))
  refine Evs.ni ⟨.bui,Cl.sumL hA'.hh (Evs.ni ⟨.bui,Cl.append .h (by refine rP (am _) (rP ai ?_); have:=g.l; omega) ⟨rfl,?_⟩⟩)⟩
  refine Exs.co (Ex.augN (Ldn.loc rfl rfl (.t (.t (.t (.t .h)))) f3.t (Ev.cn 1 (Inp.addI (Sto.lo rfl rfl (.t (.t (.t (.t .h)))) (Exs.ni ⟨t+1,by omega,by omega,?_⟩))))))
  refine rP hnext ?_
  have e5:(List.map D.int st.left++[D.int ((cards.map fun x:Card=>(x.w.n:Int)).sum)])=(st.left++[csum cards]).map .int:=by refine rP aI ?_; rfl
  refine rP e5 ?_
  have fz:BF ((eV,.int ((t:Int)+1))::m3) cs (t+1) Lf M Bn T.Kt dx:=⟨f3.c,rfl,f3.l,f3.b,f3.n,f3.o⟩
  exact .cons .h (.cons .h (.cons .h (.cons .h (.le fz.le .rest))))
 ·have e2:t=H:=by omega
  subst e2
  refine rP hE (ifF (by decide) ?_)
  refine Exs.co (Ex.ret (Ev.tup (Evs.co rfl (Ev.frz rfl rfl rfl rfl (.t .h) (.t (.t (.t .h))) frzD ok (Evs.co rfl (Ev.frz rfl rfl rfl rfl .h (.t (.t .h)) frzL ok (Evs.ni ⟨by refine rP ai ?_; simp,?_⟩)))))))
  exact ⟨_,.drop (.drop (.drop .rest)),h⟩
end
end
section
theorem filt_app {n:Nat}{p q:Nat->Bool} (h:∀ i j,i<n->j<n->q i=true->p j=true->j<i):(List.range n).filter p++(List.range n).filter q=(List.range n).filter fun k=>p k || q k:=by
 induction n with
 | zero=>rfl
 | succ n ih=>
  have ih:=ih fun i j hi hj=>h i j (by exact nT hi (aD _ _)) (by exact nT hj (aD _ _))
  simp -iota only [List.range_succ,List.filter_append]
  refine rQ ih ?_
  cases hp:p n with
  | false=>simp -iota [List.filter,hp]
  | true=>
   have e:(List.range n).filter q=[]:=List.filter_eq_nil_iff.mpr fun i hi qi=>by
    have:=h i n (by have:=List.mem_range.mp hi; exact nT this (aD _ _)) (by exact aC _) qi hp
    have:=List.mem_range.mp hi; lia
   have e2:q n=false:=by
    cases hq:q n with
    | false=>rfl
    | true=>have:=h n n (by exact aC _) (by exact aC _) hq hp; exact (aN this (nL this)).elim
   refine rP e ?_; simp -iota [List.filter,hp,e2]
theorem ot {n:Nat} (p:Nat->Bool):((List.range n).filter p).Pairwise (· < ·):=List.pairwise_lt_range.sublist List.filter_sublist
theorem ou {n k:Nat}{R:List Nat}{p:Nat->Bool} (h:(List.range n).filter p=k::R){j:Nat} (hj:j<k):p j=false:=by
 have pw:=ot (n:=n) p
 rw [h,List.pairwise_cons] at pw
 have hk:k∈(List.range n).filter p:=by refine rP h ?_; exact .head _
 have:=List.mem_range.mp (List.mem_filter.mp hk).1
 cases e:p j with
 | false=>rfl
 | true=>
  have m:j∈(List.range n).filter p:=List.mem_filter.mpr ⟨List.mem_range.mpr (by exact nT hj (nL this)),e⟩
  rw [h] at m
  rcases List.mem_cons.mp m with q | q
  ·exact (aN hj (aq q.symm)).elim
  ·have:=pw.1 j q; exact (aN hj (nL this)).elim
theorem ow {n k:Nat}{R:List Nat}{p:Nat->Bool} (h:(List.range n).filter p=R++[k]){j:Nat} (hj:k<j) (hn:j<n):p j=false:=by
 have pw:=ot (n:=n) p
 rw [h,List.pairwise_append] at pw
 cases e:p j with
 | false=>rfl
 | true=>
  have m:j∈(List.range n).filter p:=List.mem_filter.mpr ⟨List.mem_range.mpr hn,e⟩
  rw [h,List.mem_append,List.mem_singleton] at m
  rcases m with q | q
  ·have:=pw.2.2 j q k (.head _); exact (aN hj (nL this)).elim
  ·exact (aN hj (aq q)).elim
namespace Sys
variable {S:Sys}{t:Nat}
theorem gX (o:S.Ok) (hs:∀ j k,j<=k->k<S.n->S.came j<=S.came k):S.act t++S.new t=S.prs t:=by
 unfold act new prs
 rw [filt_app fun i j hi hj q p=>by
  simp -iota only [beq_iff_eq,Bool.and_eq_true,decide_eq_true_eq] at p q
  by_cases z:j<i
  ·exact z
  ·have:=hs i j (by exact aZ z) hj; exact (aN (nT p.1 (aq q.symm)) this).elim]
 refine List.filter_congr fun j hj=>?_
 have hj:=List.mem_range.mp hj
 refine rP (propext (Bool.eq_iff_iff)) ?_
 unfold prb
 simp -iota only [Bool.or_eq_true,Bool.and_eq_true,decide_eq_true_eq,beq_iff_eq]
 constructor
 ·rintro (⟨a,b⟩ | a)
  ·exact ⟨by exact nL a,b⟩
  ·exact ⟨by exact aq a,by refine rP (cH (by exact aq a.symm)) ?_; exact o.w j hj⟩
 ·rintro ⟨a,b⟩
  by_cases q:S.came j=t
  ·exact .inr q
  ·exact .inl ⟨by exact ltNe2 a (by assumption),b⟩
theorem act_next:S.act (t+1)=(S.prs t).filter fun j=>decide (0<S.rem (t+1) j):=by
 unfold act prs
 refine rP List.filter_filter ?_
 refine List.filter_congr fun j u_=>?_
 refine rP (propext (Bool.eq_iff_iff)) ?_
 unfold prb
 simp -iota only [Bool.and_eq_true,decide_eq_true_eq]
 have:=gQ (S:=S) (t:=t) (k:=j)
 omega
theorem act_at (o:S.Ok){L M:List Nat}{k:Nat} (h:S.prs t=L++k::M) (hs:S.sv t k=true):S.act (t+1)=L++if S.rem (t+1) k=0 then M else k::M:=by
 have pm:(S.prs t).Perm (k::(L++M)):=by refine rP h ?_; exact List.perm_middle
 have fr:∀ j∈L++M,decide (0<S.rem (t+1) j)=true:=fun j hj=>by
  obtain ⟨h1,h2,h3⟩:=(dt pm).mp hj
  refine rP (bH _ _) (rP (fZ o pm hs hj) (rP decide_eq_true_eq ?_))
  exact h3.2
 refine rP act_next (rP h (rP (List.filter_append _ _) (rP (List.filter_eq_self.mpr fun j hj=>fr j (List.mem_append_left _ hj)) ?_)))
 congr 1
 refine rP List.filter_cons ?_
 have e:M.filter (fun j=>decide (0<S.rem (t+1) j))=M:=List.filter_eq_self.mpr fun j hj=>fr j (List.mem_append_right _ hj)
 refine rP e ?_
 by_cases z:S.rem (t+1) k=0
 ·exact rP (aX (by simp -iota [z])) (rP (aY z) rfl)
 ·exact rP (aY (by simp -iota; exact bn z)) (rP (aX z) rfl)
noncomputable def lefts (S:Sys) (t:Nat):List Int:=(List.range t).map fun u=>((S.X (fun u_=>true) (u+1):Nat):Int)
theorem cb:S.lefts (t+1)=S.lefts t++[((S.X (fun u_=>true) (t+1):Nat):Int)]:=by unfold lefts; refine rP List.range_succ (rP aI ?_); rfl
theorem oy {w0:Nat->Wo} (hw:W0 S w0):(((S.act t).map (S.wf w0 t)).map fun w=>(w.n:Int)).sum=((S.X (fun u_=>true) t:Nat):Int):=by
 refine rQ oq (rQ (fX _) (rP aG (rP aG ?_)))
 congr 1
 refine aP fun k hk=>?_
 refine (?_:(((S.wf w0 t k).n:Nat):Int)=((S.rem t k:Nat):Int))
 exact rP (hw.wn (mem_act.mp hk).1 _) rfl
theorem wf_next (o:S.Ok){w0:Nat->Wo}{R:List Nat}{k:Nat} (h:(S.prs t).Perm (k::R)) (hs:S.sv t k=true):R.map (S.wf w0 (t+1))=R.map (S.wf w0 t):=aP fun j hj=>by
 refine rP (cP _) (rP (fZ o h hs hj) ?_); rfl
end Sys
open Sys
noncomputable def cm (cs:bw) (k:Nat):Nat:=(cs.getD k (0,⟨0,0,0⟩)).1
noncomputable def wd (cs:bw) (k:Nat):Wo:=(cs.getD k (0,⟨0,0,0⟩)).2
structure eO (cs:bw):Prop where
 n1:1<=cs.length
 n4:cs.length<=4
 srt:∀ j k,j<=k->k<cs.length->cm cs j<=cm cs k
 ch:∀ k,k<cs.length->(wd cs k).ch=gch k
 nn:∀ k,k<cs.length->1<=(wd cs k).n/\(wd cs k).f<=2/\(wd cs k).r<=1
 top:∀ k,k<cs.length->cm cs k<=20
noncomputable def bB (cs:bw) (lt:Nat->Nat->Bool):Sys:=⟨cs.length,cm cs,fun k=>(wd cs k).n,lt⟩
theorem cs_eq (cs:bw):cs=(List.range cs.length).map fun k=>(cm cs k,wd cs k):=by
 refine List.ext_getElem (by simp -iota) fun k h1 h2=>?_
 refine rP (List.getElem_map _) (rP (List.getElem_range _) ?_)
 unfold cm wd
 refine rP aF (rP (ao h1) ?_); rfl
theorem arr_eq (cs:bw) (lt:Nat->Nat->Bool) (t:Nat):arr cs t=((bB cs lt).new t).map (wd cs):=by
 refine (congrArg (fun l:bw=>(l.filter fun p=>p.1 == t).map (·.2)) (cs_eq cs)).trans ?_
 refine (?_:(((List.range cs.length).map fun k=>(cm cs k,wd cs k)).filter fun p=>p.1 == t).map (·.2)=_)
 refine rP List.filter_map (rP aG ?_)
 rfl
theorem W0.of {cs:bw} (g:eO cs) (lt:Nat->Nat->Bool):W0 (bB cs lt) (wd cs):=⟨fun u_ u_=>rfl,g.ch,fun k hk=>by have:=g.nn k hk; exact ⟨(nD this.2.1 rfl),(nD this.2.2 rfl)⟩⟩
theorem new_wf {cs:bw}{lt:Nat->Nat->Bool}{t:Nat} (w0:Nat->Wo):((bB cs lt).new t).map ((bB cs lt).wf w0 t)=((bB cs lt).new t).map w0:=aP fun k hk=>iG (by have:=(mem_new.mp hk).2; exact aq this.symm)
noncomputable abbrev cE (cs:bw):Sys:=bB cs fun j k=>decide (j<k)
theorem okL {cs:bw} (g:eO cs):(cE cs).Ok:=⟨fun k hk=>(g.nn k hk).1,fun k=>by simp -iota [bB],fun j k u_ u_ h=>by
 refine (?_:decide (j<k) = !decide (k<j))
 by_cases q:j<k
 ·refine rP (be q) (rP (bf (by exact Nat.not_lt_of_le (nL q))) ?_); rfl
 ·refine rP (bf q) (rP (be (by exact lt_of h (by assumption))) ?_); rfl,fun i j k h1 h2=>by simp -iota only [bB,decide_eq_true_eq] at *; exact nT h1 (nL h2)⟩
structure oz (cs:bw) (e:Nat->Nat) (t:Nat) (s:LSt):Prop where
 l:s.hand.toList++s.q=((cE cs).act t).map ((cE cs).wf (wd cs) t)
 lf:s.left=(cE cs).lefts t
 b:BookInv (cE cs) e t s.book
theorem oA (h:Option Wo) (q:List Wo):(handN h:Int)+lsum q=((h.toList++q).map fun w=>(w.n:Int)).sum:=by
 induction h with
 | none=>show (0:Int)+lsum q=_; refine rP (Int.zero_add _) ?_; rfl
 | some w=>rfl
theorem du {cs:bw} (g:eO cs){e:Nat->Nat} (E:(cE cs).End e):∀ t,oz cs e t (bN cs t)
 | 0=>⟨by refine rP iI ?_; rfl,rfl,BookInv.zero (okL g)⟩
 | t+1=>by
  have o:=okL g
  have w:=W0.of g (fun j k=>decide (j<k))
  have I:=du g E t
  refine (?_:oz cs e (t+1) (dn cs t (bN cs t)))
  refine rP (dQ _ _ _) ?_
  generalize hs:bN cs t=s at I
  have all:s.hand.toList++(s.q++arr cs t)=((cE cs).prs t).map ((cE cs).wf (wd cs) t):=by
   exact rQ (List.append_assoc _ _ _) (rP I.l (rP (arr_eq cs (fun j k=>decide (j<k)) t) (rQ (new_wf _) (rQ aI (rP (gX o g.srt) rfl)))))
  cases hp:(cE cs).prs t with
  | nil=>
   rw [hp,List.map_nil,List.append_eq_nil_iff] at all
   have h1:s.hand=none:=by cases h:s.hand with | none=>rfl | some w=>rw [h] at all; exact cN' all.1
   refine rP h1 (rP all.2 ?_)
   have a0:=iH hp
   have hx:(cE cs).X (fun u_=>true) (t+1)=0:=by refine rQ oq (rP a0 ?_); rfl
   exact ⟨by refine rP a0 ?_; rfl,by refine rP cb (rP hx ?_); show s.left++[0+0]=_; refine rP I.lf ?_; rfl,I.b.none hp⟩
  | cons k R=>
   rw [hp,aA] at all
   have tk:dC s.hand (s.q++arr cs t)=(some ((cE cs).wf (wd cs) t k),R.map ((cE cs).wf (wd cs) t)):=by
    cases h:s.hand with
    | none=>rw [h] at all; refine rP (show s.q++arr cs t=_ from all) ?_; rfl
    | some w=>rw [h] at all; obtain ⟨a,b⟩:=List.cons.inj all; refine rP a (rP (show s.q++arr cs t=_ from b) ?_); rfl
   refine rP tk ?_
   have pm:((cE cs).prs t).Perm (k::R):=by exact rP hp .rfl
   have sv:(cE cs).sv t k=true:=sv_iff.mpr ⟨(bT pm).2,fun j hj hl hq=>by
    have:=ou hp (j:=j) (by simpa -iota [bB] using hl)
    rw [prb_iff.mpr hq] at this; exact tF this⟩
   have hk:=(bT pm).1
   have ea:(cE cs).act (t+1)=if (cE cs).rem (t+1) k=0 then R else k::R:=act_at (L:=[]) o hp sv
   have en:(bA ((cE cs).wf (wd cs) t k)).n=(cE cs).rem (t+1) k:=by refine rP (fh _) (rP (w.wn hk _) (rP (bH _ _) (rP sv ?_))); rfl
   have el:(gD t s.book (R.map ((cE cs).wf (wd cs) t)) (some ((cE cs).wf (wd cs) t k))).1.toList++R.map ((cE cs).wf (wd cs) t)=((cE cs).act (t+1)).map ((cE cs).wf (wd cs) (t+1)):=by
    refine (?_:(if (bA ((cE cs).wf (wd cs) t k)).n=0 then none else some (bA ((cE cs).wf (wd cs) t k))).toList++_=_)
    refine rP ea (rP en (rQ (wf_next o pm sv) ?_))
    split
    ·rfl
    ·refine rP aA (rP (cP k) (rP sv ?_)); rfl
   refine ⟨el,?_,I.b.some o g.n4 w E pm sv⟩
   refine (?_:s.left++[_]=_)
   exact rP (oA _ _) (rP el (rP (oy w) (rP cb (rP I.lf rfl))))
noncomputable abbrev cC (cs:bw):Sys:=bB cs fun j k=>decide (k<j)
theorem okP {cs:bw} (g:eO cs):(cC cs).Ok:=⟨fun k hk=>(g.nn k hk).1,fun k=>by simp -iota [bB],fun j k u_ u_ h=>by
 refine (?_:decide (k<j) = !decide (j<k))
 by_cases q:k<j
 ·refine rP (be q) (rP (bf (by exact Nat.not_lt_of_le (nL q))) ?_); rfl
 ·refine rP (bf q) (rP (be (by lia)) ?_); rfl,fun i j k h1 h2=>by simp -iota only [bB,decide_eq_true_eq] at *; exact nT h2 (nL h1)⟩
noncomputable def p0 (cs:bw) (k:Nat):Wo:=⟨(wd cs k).n,0,gch k⟩
theorem p0ok {cs:bw} (g:eO cs) (lt:Nat->Nat->Bool):W0 (bB cs lt) (p0 cs):=⟨fun u_ u_=>rfl,fun u_ u_=>rfl,fun k hk=>by
 have:=g.nn k hk
 refine (?_:(wd cs k).n<=3/\0<=3)
 unfold Wo.n; exact ⟨(aQ this.2.1 this.2.2),(aO _)⟩⟩
theorem p0wf {cs:bw} (lt:Nat->Nat->Bool) (k:Nat):∀ t,(bB cs lt).wf (p0 cs) t k=⟨(bB cs lt).rem t k,0,gch k⟩
 | 0=>rfl
 | t+1=>by
  refine rP (cP _) (rP (bH _ _) (rP (p0wf lt k t) ?_))
  split
  ·unfold bA; dsimp only; exact rP (Nat.zero_sub _) rfl
  ·rfl
structure oB (cs:bw) (e:Nat->Nat) (t:Nat) (s:PSt):Prop where
 l:s.ds=((cC cs).act t).map fun k=>((cC cs).rem t k,gch k)
 lf:s.left=(cC cs).lefts t
 b:BookInv (cC cs) e t s.book
theorem psum_X (cs:bw) (t:Nat):psum (((cC cs).act t).map fun k=>((cC cs).rem t k,gch k))=(((cC cs).X (fun u_=>true) t:Nat):Int):=by
 unfold psum
 refine rP aG (rQ oq (rQ (fX _) (rP aG ?_))); rfl
theorem dv {cs:bw} (g:eO cs){e:Nat->Nat} (E:(cC cs).End e):∀ t,oB cs e t (bU cs t)
 | 0=>⟨by refine rP iI ?_; rfl,rfl,BookInv.zero (okP g)⟩
 | t+1=>by
  have o:=okP g
  have w:=p0ok g (fun j k=>decide (k<j))
  have I:=dv g E t
  refine (?_:oB cs e (t+1) (dp cs t (bU cs t)))
  refine rP (dR _ _ _) ?_
  generalize hs:bU cs t=s at I
  have pa:gR cs t=((cC cs).new t).map fun k=>((cC cs).rem t k,gch k):=by
   unfold gR
   refine rP (arr_eq cs (fun j k=>decide (k<j)) t) (rP aG ?_)
   refine aP fun k hk=>?_
   have hk:=mem_new.mp hk
   refine (?_:((wd cs k).n,(wd cs k).ch)=_)
   refine rP (cH (aq hk.2.symm)) (rP (g.ch k hk.1) ?_); rfl
  have all:s.ds++gR cs t=((cC cs).prs t).map fun k=>((cC cs).rem t k,gch k):=by
   exact rP I.l (rP pa (rQ aI (rP (gX o g.srt) rfl)))
  refine rP all ?_
  rcases List.eq_nil_or_concat ((cC cs).prs t) with hp | ⟨R,k,hp⟩
  ·refine rP hp ?_
   have a0:=iH hp
   have hx:(cC cs).X (fun u_=>true) (t+1)=0:=by refine rQ oq (rP a0 ?_); rfl
   exact ⟨by refine rP a0 ?_; rfl,by refine rP cb (rP hx ?_); show s.left++[0]=_; refine rP I.lf ?_; rfl,I.b.none hp⟩
  ·rw [List.concat_eq_append] at hp
   have pm:((cC cs).prs t).Perm (k::R):=by refine rP hp ?_; exact (List.perm_append_comm (l₁:=R) (l₂:=[k]))
   have sv:(cC cs).sv t k=true:=sv_iff.mpr ⟨(bT pm).2,fun j hj hl hq=>by
    have:=ow hp (j:=j) (by simpa -iota [bB] using hl) hj
    rw [prb_iff.mpr hq] at this; exact tF this⟩
   have hk:=(bT pm).1
   have ea:(cC cs).act (t+1)=R++if (cC cs).rem (t+1) k=0 then [] else [k]:=act_at (L:=R) (M:=[]) o hp sv
   have er:(cC cs).rem (t+1) k=(cC cs).rem t k - 1:=by refine rP (bH _ _) (rP sv ?_); rfl
   have rs:∀ j∈R,(cC cs).rem (t+1) j=(cC cs).rem t j:=fun j hj=>by refine rP (bH _ _) (rP (fZ o pm sv hj) ?_); rfl
   have pw':ek t s.book (((cC cs).prs t).map fun k=>((cC cs).rem t k,gch k))=(((cC cs).act (t+1)).map fun k=>((cC cs).rem (t+1) k,gch k),jA s.book t (bA ((cC cs).wf (p0 cs) t k)) (R.map ((cC cs).wf (p0 cs) t))):=by
    unfold ek
    refine rP hp (rP aI (rP aA (rP List.map_nil (rP List.getLast?_concat (rP List.dropLast_concat ?_)))))
    refine Prod.ext ?_ ?_
    ·refine (?_:(if (cC cs).rem t k - 1=0 then _ else _)=_)
     refine rP ea (rP aI (rQ er (rP (aP (f:=fun k=>((cC cs).rem (t+1) k,gch k)) (g:=fun k=>((cC cs).rem t k,gch k)) (l:=R) fun j hj=>by rw [rs j hj]) ?_)))
     split
     ·simp -iota
     ·rfl
    ·refine (?_:jA _ _ ⟨(cC cs).rem t k - 1,0,gch k⟩ _=jA _ _ _ _)
     have e1:(⟨(cC cs).rem t k - 1,0,gch k⟩:Wo)=bA ((cC cs).wf (p0 cs) t k):=by refine rP (p0wf _ _ _) ?_; unfold bA; dsimp only; exact rP (Nat.zero_sub _) rfl
     have e2:(R.map fun k=>((cC cs).rem t k,gch k)).map pw=R.map ((cC cs).wf (p0 cs) t):=by
      refine rP aG ?_
      refine aP fun j u_=>?_
      refine rP (p0wf _ _ _) ?_; rfl
     exact rP e1 (rP e2 rfl)
   refine rP pw' ?_
   refine ⟨rfl,?_,I.b.some o g.n4 w E pm sv⟩
   refine (?_:s.left++[_]=_)
   exact rP (psum_X _ _) (rP cb (rP I.lf rfl))
end
section
open Sys
noncomputable abbrev ltx:List (Int×Int)->Bool:=lex (fun a b=>decide (a<b)) false
noncomputable abbrev oC:List (Int×Int)->Bool:=lex (fun a b=>decide (a<=b)) true
theorem eo (le:Int->Int->Bool) (e:Bool) (a b:Int) (r:List (Int×Int)):lex le e ((a,b)::r)=if a == b then lex le e r else le a b:=rfl
theorem oD:∀ l:List Int,ltx (l.zip l)=false
 | []=>rfl
 | a::l=>by rw [List.zip_cons_cons,ltx,eo,bq,aY rfl]; exact oD l
theorem ltx_tr:∀ {l m n:List Int},l.length=m.length->m.length=n.length->ltx (l.zip m)=true->ltx (m.zip n)=true->ltx (l.zip n)=true
 | [],[],_,_,_,h,_=>by exact fT h
 | a::l,b::m,[],_,h,_,_=>by exact sZ h
 | a::l,b::m,d::n,h1,h2,p,q=>by
  simp only [ltx,List.zip_cons_cons,eo,beq_iff_eq] at p q ⊢
  by_cases e1:a=b
  ·rw [aY e1] at p
   by_cases e2:b=d
   ·rw [aY e2] at q
    refine rP (aY (e1.trans e2)) ?_; exact ltx_tr (Nat.succ.inj h1) (Nat.succ.inj h2) p q
   ·rw [aX e2] at q
    refine rP (aX (e1 ▸ e2)) (rP e1 ?_); exact q
  ·rw [aX e1,decide_eq_true_eq] at p
   by_cases e2:b=d
   ·refine rP (aX (e2 ▸ e1)) (rQ e2 ?_); exact be p
   ·rw [aX e2,decide_eq_true_eq] at q
    refine rP (aX (by exact Int.ne_of_lt (bo (Int.le_of_lt p) q))) (rP decide_eq_true_eq ?_); exact bo (Int.le_of_lt p) q
theorem oE:∀ {l m:List Int},l.length=m.length->l≠m->ltx (l.zip m) = !ltx (m.zip l)
 | [],[],_,h=>absurd rfl h
 | a::l,b::m,h,n=>by
  simp only [ltx,List.zip_cons_cons,eo,beq_iff_eq]
  by_cases e:a=b
  ·refine rP (aY e) (rP (aY e.symm) ?_); exact oE (Nat.succ.inj h) fun q=>n (by exact rP e (rP q rfl))
  ·refine rP (aX e) (rP (aX (Ne.symm e)) ?_)
   by_cases q:a<b
   ·refine rP (be q) (rP (bf (by exact Int.not_lt.2 (Int.le_of_lt q))) ?_); rfl
   ·refine rP (bf q) (rP (be (by lia)) ?_); rfl
theorem jG:∀ {l m:List Int},l.length=m.length->oC (l.zip m) = !ltx (m.zip l)
 | [],[],_=>rfl
 | a::l,b::m,h=>by
  simp only [ltx,oC,List.zip_cons_cons,eo,beq_iff_eq]
  by_cases e:a=b
  ·refine rP (aY e) (rP (aY e.symm) ?_); exact jG (Nat.succ.inj h)
  ·refine rP (aX e) (rP (aX (Ne.symm e)) ?_)
   by_cases q:a<=b
   ·refine rP (be q) (rP (bf (by exact Int.not_lt.2 q)) ?_); rfl
   ·refine rP (bf q) (rP (be (by exact Int.lt_of_not_ge q)) ?_); rfl
theorem cmp_one (x y w rest:Int) (hk:w≠0) (b:Bool) (ih:decide (rest<0)=b):decide ((if x<y then -w else if x>y then w else rest)<0)=if w*x=w*y then b else decide (w*x<w*y):=by
 by_cases e:x=y
 ·subst e
  refine rP (aY rfl) ?_
  by_cases q:x<x
  ·exact absurd q (Int.lt_irrefl x)
  ·simp only [aX q]
   exact ih
 ·refine rP (aX fun q=>e ((Int.mul_eq_mul_left_iff hk).mp q)) ?_
  by_cases p:0<w
  ·by_cases q:x<y
   ·simp only [aY q]
    exact rP (be (by omega)) (rP (be (Int.mul_lt_mul_of_pos_left q p)) rfl)
   ·have:=Int.mul_lt_mul_of_pos_left (show y<x by lia) p
    have q2:x>y:=by lia
    simp only [aX q,aY q2]
    exact rP (bf (by exact Int.not_lt.2 (Int.le_of_lt p))) (rP (bf (by exact Int.not_lt.2 (Int.le_of_lt this))) rfl)
  ·have p:w<0:=by lia
   by_cases q:x<y
   ·have:=Int.mul_lt_mul_of_neg_left q p
    simp only [aY q]
    exact rP (bf (by lia)) (rP (bf (by exact Int.not_lt.2 (Int.le_of_lt this))) rfl)
   ·have:=Int.mul_lt_mul_of_neg_left (show y<x by omega) p
    have q2:x>y:=by omega
    simp only [aX q,aY q2]
    exact rP (be (by exact p)) (rP (be (by exact this)) rfl)
theorem oF {l r:List Int}:∀ {ks:List (Nat×Int)},(∀ k∈ks,k.2≠0)->decide (cX l r ks<0)=ltx ((ks.map fun k=>k.2*l.getD k.1 0).zip (ks.map fun k=>k.2*r.getD k.1 0))
 | [],_=>rfl
 | k::ks,h=>by
  simp only [aA,ltx,List.zip_cons_cons,eo,beq_iff_eq]
  exact cmp_one _ _ _ _ (h k (.head _)) _ (oF fun k hk=>h k (.tail _ hk))
noncomputable def cns (cs:bw) (k:Nat):List Int:=[((wd cs k).n:Int),(cm cs k:Int),(k:Int)]
noncomputable def rkB (cs:bw) (ks:List (Nat×Int)) (k:Nat):List Int:=ks.map fun key=>key.2*(cns cs k).getD key.1 0
noncomputable abbrev cU (cs:bw) (ks:List (Nat×Int)):Sys:=bB cs fun j k=>ltx ((rkB cs ks j).zip (rkB cs ks k))
structure KsOk (ks:List (Nat×Int)):Prop where
 ne:∀ k∈ks,k.2≠0
 pl:∃ w,(2,w)∈ks
theorem cj (cs:bw) (ks:List (Nat×Int)) (k:Nat):(rkB cs ks k).length=ks.length:=am _
theorem rkB_ne {cs:bw}{ks:List (Nat×Int)} (h:KsOk ks){j k:Nat} (n:j≠k):rkB cs ks j≠rkB cs ks k:=fun e=>by
 obtain ⟨w,hw⟩:=h.pl
 have:=List.map_inj_left.mp e _ hw
 have q:=(Int.mul_eq_mul_left_iff (h.ne _ hw)).mp this
 exact n (Int.ofNat.inj q)
theorem okB {cs:bw} (g:eO cs){ks:List (Nat×Int)} (h:KsOk ks):(cU cs ks).Ok:=
 ⟨fun k hk=>(g.nn k hk).1,fun k=>oD _,fun j k u_ u_ n=>oE (by exact rP (cj _ _ _) (rP (cj _ _ _) rfl)) (rkB_ne h n),fun i j k=>ltx_tr (by exact rP (cj _ _ _) (rP (cj _ _ _) rfl)) (by exact rP (cj _ _ _) (rP (cj _ _ _) rfl))⟩
noncomputable def cardT (cs:bw) (ks:List (Nat×Int)) (t k:Nat):Card:=⟨(wd cs k).n,cm cs k,k,(cU cs ks).wf (wd cs) t k⟩
theorem cmp_card (cs:bw){ks:List (Nat×Int)} (h:KsOk ks) (t j k:Nat):decide (cX (cardT cs ks t j).ns (cardT cs ks t k).ns ks<0)=(cU cs ks).lt j k:=oF h.ne
theorem oG (cs:bw) (ks:List (Nat×Int)) (t:Nat):jO cs t=((cU cs ks).new t).map (cardT cs ks t):=by
 have e:cs.zipIdx=(List.range cs.length).map fun k=>((cm cs k,wd cs k),k):=by
  refine List.ext_getElem (by simp) fun k h1 h2=>?_
  refine rP (List.getElem_map _) (rP (List.getElem_range _) (rP (List.getElem_zipIdx _) ?_))
  unfold cm wd
  refine rP aF (rP (ao (by simpa using h1)) (rP (Nat.zero_add _) ?_)); rfl
 unfold jO
 refine rP e (rP List.filter_map (rP aG ?_))
 refine aP (l:=(cU cs ks).new t) fun k hk=>?_
 refine (?_:(⟨(wd cs k).n,cm cs k,k,wd cs k⟩:Card)=⟨_,_,_,_⟩)
 exact rP (iG (aq (mem_new.mp hk).2.symm)) rfl
theorem iR {S:Sys} (o:S.Ok):∀ (l:List Nat) (c:Nat),c<S.n->(∀ x∈l,x<S.n)->∃ m,l.foldl (fun f x=>if S.lt x f then x else f) c=m/\m∈c::l/\∀ x∈c::l,x=m\/S.lt m x=true
 | [],c,_,_=>⟨c,rfl,.head _,fun x hx=>by rcases List.mem_cons.mp hx with e | e; exact .inl e; exact mN e⟩
 | a::l,c,hc,h=>by
  have ha:=h a (.head _)
  have hl:=fun x hx=>h x (.tail _ hx)
  refine rP List.foldl_cons ?_
  by_cases q:S.lt a c=true
  ·obtain ⟨m,e,hm,hx⟩:=iR o l a ha hl
   refine ⟨m,by refine rP (aY q) ?_; exact e,.tail _ hm,fun x p=>?_⟩
   rcases List.mem_cons.mp p with e2 | e2
   ·subst e2
    rcases hx a (.head _) with r | r
    ·exact .inr (r ▸ q)
    ·exact .inr (o.tr _ _ _ r q)
   ·exact hx x e2
  ·obtain ⟨m,e,hm,hx⟩:=iR o l c hc hl
   refine ⟨m,by refine rP (aX q) ?_; exact e,?_,fun x p=>?_⟩
   ·rcases List.mem_cons.mp hm with r | r
    ·refine rP r ?_; exact .head _
    ·exact .tail _ (.tail _ r)
   ·rcases List.mem_cons.mp p with e2 | e2
    ·exact hx x (by refine rP e2 ?_; exact .head _)
    ·rcases List.mem_cons.mp e2 with e3 | e3
     ·subst e3
      by_cases z:x=c
      ·exact hx x (by refine rP z ?_; exact .head _)
      ·have t1:S.lt c x=true:=by
        have:=o.tot c x hc ha (Ne.symm z)
        refine rP this ?_; simpa using q
       rcases hx c (.head _) with r | r
       ·exact .inr (r ▸ t1)
       ·exact .inr (o.tr _ _ _ r t1)
     ·exact hx x (.tail _ e3)
theorem erase_at (L:List Nat) (m:Nat):m∈L->L.Perm (m::L.eraseIdx (L.findIdx fun x=>x == m)):=by
 induction L with
 | nil=>intro h; exact mN h
 | cons a l ih=>
  intro h
  refine rP List.findIdx_cons ?_
  by_cases q:a=m
  ·subst q; refine rP (bq _) ?_; exact .refl _
  ·refine rP (beq_eq_false_iff_ne.mpr q) ?_
   refine (?_:(a::l).Perm (m::a::l.eraseIdx _))
   exact ((ih ((List.mem_cons.mp h).resolve_left (Ne.symm q))).cons a).trans (.swap _ _ _)
theorem eu {α β:Type} (f:α->β):∀ (l:List α) (i:Nat),(l.map f).eraseIdx i=(l.eraseIdx i).map f
 | [],_=>rfl
 | a::l,0=>rfl
 | a::l,i+1=>by exact rP aA (rP List.eraseIdx_cons_succ (rP List.eraseIdx_cons_succ (rP aA (rP (eu f l i) rfl))))
structure iS (cs:bw) (ks:List (Nat×Int)) (e:Nat->Nat) (t:Nat) (s:BSt):Prop where
 l:∃ L:List Nat,s.cs=L.map (cardT cs ks t)/\L.Perm ((cU cs ks).act t)
 lf:s.left=(cU cs ks).lefts t
 b:BookInv (cU cs ks) e t s.book
theorem jH (cs:bw){ks:List (Nat×Int)} (h:KsOk ks) (t:Nat):∀ (l:List Nat) (c:Nat),(l.map (cardT cs ks t)).foldl (fun f x=>if cX x.ns f.ns ks<0 then x else f) (cardT cs ks t c)=cardT cs ks t (l.foldl (fun f x=>if (cU cs ks).lt x f then x else f) c)
 | [],_=>rfl
 | a::l,c=>by
  rw [aA,List.foldl_cons,List.foldl_cons]
  have e:(if cX (cardT cs ks t a).ns (cardT cs ks t c).ns ks<0 then cardT cs ks t a else cardT cs ks t c)=cardT cs ks t (if (cU cs ks).lt a c=true then a else c):=by
   refine rQ (cmp_card cs h t a c) ?_
   by_cases q:cX (cardT cs ks t a).ns (cardT cs ks t c).ns ks<0
   ·exact rP (aY q) (rP (aY (be q)) rfl)
   ·exact rP (aX q) (rP (aX (by simpa using q)) rfl)
  exact rP e (rP (jH cs h t l _) rfl)
theorem csum_X {cs:bw} (g:eO cs) (ks:List (Nat×Int)) (t:Nat){L:List Nat} (p:L.Perm ((cU cs ks).act t)):csum (L.map (cardT cs ks t))=(((cU cs ks).X (fun u_=>true) t:Nat):Int):=by
 unfold csum
 refine rQ (oy (W0.of g (fun j k=>ltx ((rkB cs ks j).zip (rkB cs ks k))))) (rP aG (rP aG ?_))
 exact lp (p.map _)
theorem mj {cs:bw} (g:eO cs){ks:List (Nat×Int)} (h:KsOk ks){e:Nat->Nat} (E:(cU cs ks).End e){t:Nat}{s:BSt} (I:iS cs ks e t s):iS cs ks e (t+1) (cI cs ks t s):=by
 have o:=okB g h
 have w:=W0.of g (fun j k=>ltx ((rkB cs ks j).zip (rkB cs ks k)))
 refine rP (dg _ _ _ _) ?_
 obtain ⟨L,hL,pL⟩:=I.l
 have all:s.cs++jO cs t=(L++(cU cs ks).new t).map (cardT cs ks t):=by exact rP hL (rP (oG cs ks _) (rP aI rfl))
 have pm:(L++(cU cs ks).new t).Perm ((cU cs ks).prs t):=(pL.append_right _).trans (lq o)
 refine rP all ?_
 cases hp:L++(cU cs ks).new t with
 | nil=>
  rw [hp] at pm
  have p0:=pm.symm.eq_nil
  have a0:=iH p0
  have hx:(cU cs ks).X (fun u_=>true) (t+1)=0:=by refine rQ oq (rP a0 ?_); rfl
  exact ⟨⟨[],rfl,by exact rP a0 .rfl⟩,by refine rP cb (rP hx ?_); show s.left++[0]=_; refine rP I.lf ?_; rfl,I.b.none p0⟩
 | cons c l=>
  rw [hp] at pm
  have lt:∀ x∈c::l,x<(cU cs ks).n:=fun x hx=>(mem_prs.mp (pm.mem_iff.mp hx)).1
  obtain ⟨m,em,hm,hx⟩:=iR o (c::l) c (lt c (.head _)) lt
  have hm:m∈c::l:=by
   rcases List.mem_cons.mp hm with r | r
   ·refine rP r ?_; exact .head _
   ·exact r
  have hx:=fun x q=>hx x (.tail _ q)
  have bm:bmin ks (cardT cs ks t c) (cardT cs ks t c::l.map (cardT cs ks t))=cardT cs ks t m:=by
   have:=jH cs h t (c::l) c
   rw [em] at this
   exact this
  have pR:=erase_at (c::l) m hm
  generalize hR:(c::l).eraseIdx ((c::l).findIdx fun x=>x == m)=R at pR
  have pk:((cU cs ks).prs t).Perm (m::R):=pm.symm.trans pR
  have sv:(cU cs ks).sv t m=true:=sv_iff.mpr ⟨(bT pk).2,fun j hj hl hq=>by
   have:j∈c::l:=pm.mem_iff.mpr (mem_prs.mpr ⟨hj,hq⟩)
   rcases hx j this with r | r
   ·subst r; rw [o.irr] at hl; exact fT hl
   ·have:=o.tr _ _ _ r hl; rw [o.irr] at this; exact fT this⟩
  have hk:=(bT pk).1
  have en:(bA ((cU cs ks).wf (wd cs) t m)).n=(cU cs ks).rem (t+1) m:=by refine rP (fh _) (rP (w.wn hk _) (rP (bH _ _) (rP sv ?_))); rfl
  have er:((c::l).map (cardT cs ks t)).eraseIdx (((c::l).map (cardT cs ks t)).findIdx fun x=>x.k == m)=R.map (cardT cs ks t):=by
   refine rP (eu _ _ _) (rP (List.findIdx_map _ _ _) (rQ hR ?_)); rfl
  have nx:R.map (cardT cs ks t)=R.map (cardT cs ks (t+1)):=aP fun j hj=>by
   unfold cardT
   refine rP (cP _) (rP (fZ o pk sv hj) ?_); rfl
  have eb:eX ks t s.book ((c::l).map (cardT cs ks t))=((if (cU cs ks).rem (t+1) m=0 then R else R++[m]).map (cardT cs ks (t+1)),jA s.book t (bA ((cU cs ks).wf (wd cs) t m)) (R.map ((cU cs ks).wf (wd cs) t))):=by
   rw [aA] at er ⊢
   unfold eX
   dsimp only
   refine rP bm ?_
   refine rP (show ((cardT cs ks t c::l.map (cardT cs ks t)).findIdx fun x=>x.k == (cardT cs ks t m).k)=(cardT cs ks t c::l.map (cardT cs ks t)).findIdx fun x=>x.k == m from rfl) (rP er ?_)
   refine Prod.ext ?_ ?_
   ·refine (?_:(if (bA ((cU cs ks).wf (wd cs) t m)).n=0 then _ else _)=_)
    refine rP en ?_
    split
    ·exact nx
    ·refine rP aI (rP nx ?_)
     congr 1
     refine (?_:[(⟨_,_,_,_⟩:Card)]=[⟨_,_,_,_⟩])
     refine rP (cP _) (rP sv ?_); rfl
   ·refine (?_:jA _ _ _ ((R.map (cardT cs ks t)).map (·.w))=_)
    refine rP aG ?_; rfl
  refine rP eb ?_
  have pa:(if (cU cs ks).rem (t+1) m=0 then R else R++[m]).Perm ((cU cs ks).act (t+1)):=by
   refine List.Perm.trans ?_ (act_some o pk sv).symm
   split
   ·exact .refl _
   ·exact List.perm_append_comm (l₁:=R) (l₂:=[m])
  refine ⟨⟨_,rfl,pa⟩,?_,I.b.some o g.n4 w E pk sv⟩
  refine (?_:s.left++[csum _]=_)
  exact rP (csum_X g ks _ pa) (rP cb (rP I.lf rfl))
theorem cy {cs:bw} (g:eO cs){ks:List (Nat×Int)} (h:KsOk ks){e:Nat->Nat} (E:(cU cs ks).End e):∀ t,iS cs ks e t (bM cs ks t)
 | 0=>⟨⟨[],rfl,by exact rP iI .rfl⟩,rfl,BookInv.zero (okB g h)⟩
 | t+1=>mj g h E (cy g h E t)
end
end Mine.Internal
end
section
open PySem PySem.W PyProof.Rows
namespace Mine.Internal
section
noncomputable def cV (days:List (Int×Int)) (h:Int):Int:=
 mx (0::(days.filter fun d=>decide (d.1<h)).map fun d=>((days.filter fun e=>decide (d.1<=e.1) && decide (e.1<h)).map (·.2)).sum - (h - d.1))
section
variable {c:Cst}{A:Around}{led:Led}{Q:D->Led->Prop}{a:Addr}{fd:FuncData}
theorem w27 (ok:c.Ok) (B:Bui c) (hA:Aok A 2) (F:FnAt c a t27.1 fd) (days:List (Int×Int)) (hour:Int) (hz:days.length<=100) (h:Q (.int (cV days hour)) led):Cc c A (.ref a) [jx days,.int hour] led Q:=by
 refine F.call ok hA (F.bind2 (x:=⟨⟨[100,97,121,115]⟩⟩) (y:=⟨⟨[104,111,117,114]⟩⟩) fun v u=>fun u_ u_ u_ u_ u_ u_ u_ u_ u_ u_ u_ u_=>rfl) rfl rfl ?_
 intro C a1 a2 A' hA'
 refine Sto.cel rfl rfl rfl (.t .h) rfl (Sto.cel rfl rfl rfl .h rfl ?_)
 refine Exs.co (Ex.ret (Ev.ca rfl rfl (Ev.bui ok rfl rfl rfl rfl B.max'.1 B.max'.2 rfl (Evs.co rfl (Ev.bi (Ev.lst (Evs.co rfl (Ev.cn 0 (Evs.ni ⟨by rw [ai]; simp,?_⟩)))))))))
 refine Ev.compL (xs:=days) (g:=fun p=>.tup [.int p.1,.int p.2]) (p:=fun d=>decide (d.1<hour)) (f:=fun d=>.int (((days.filter fun e=>decide (d.1<=e.1) && decide (e.1<hour)).map (·.2)).sum - (hour - d.1))) hA'.hh rfl rfl (by decide) (fun u_=>rfl) ?_
 refine Ev.ce rfl rfl rfl (.t .h) rfl ⟨rfl,by exact szD hz rfl,?_,?_⟩
 ·intro acc out I rest x hx C2 a3
  refine Asg.tup hA'.hh rfl rfl (Asg.cel rfl rfl rfl .h rfl (Asg.lo rfl rfl (.t .h) ?_))
  refine Tst.cmp rfl (Ev.ce rfl rfl rfl .h rfl (Ev.ce rfl rfl rfl (.t (.t (.t (.t .h)))) rfl (Cmp.ltI ⟨_,rfl,rfl,?_⟩)))
  refine gu ?_ ?_
  ·intro _; refine Ev.bi (Ev.ca rfl rfl (Ev.bui ok rfl rfl rfl rfl B.sum'.1 B.sum'.2 rfl (Evs.co rfl ?_)))
   refine Ev.compL (xs:=days) (g:=fun p=>.tup [.int p.1,.int p.2]) (p:=fun e=>decide (x.1<=e.1) && decide (e.1<hour)) (f:=fun e=>.int e.2) hA'.hh rfl rfl (by decide) (fun u_=>rfl) ?_
   refine Ev.ce rfl rfl rfl (.t (.t (.t (.t (.t .h))))) rfl ⟨rfl,by exact szD hz rfl,?_,?_⟩
   ·intro acc2 out2 I2 rest2 y hy C3
    refine Asg.tup hA'.hh rfl rfl (Asg.lo rfl rfl .h (Asg.lo rfl rfl .h ?_))
    refine Tst.cmp2 rfl (Ev.ce rfl rfl rfl (.t (.t (.t .h))) rfl (Ev.lo rfl rfl .h rfl rfl (Cmp.leI ⟨_,rfl,?_⟩)))
    refine gu ?_ ?_
    ·intro e
     refine rP e ?_
     refine Ev.ce rfl rfl rfl (.t (.t (.t (.t (.t (.t (.t .h))))))) rfl (Cmp.ltI ⟨_,rfl,by exact rP (Bool.true_and _) rfl,?_⟩)
     refine gu ?_ ?_
     ·intro _; exact Ev.lo rfl rfl .h rfl rfl ⟨rfl,.le .ns0 .rest⟩
     ·intro _; exact .le .ns0 .rest
    ·intro e
     rw [Bool.not_eq_true] at e
     exact ⟨by exact rP e (rP (Bool.false_and _) rfl),.le .ns0 .rest⟩
   ·refine Evs.ni ⟨.bui,?_⟩
    refine rP (show (fun e:Int×Int=>D.int e.2)=D.int∘(·.2) from rfl) (rQ aG ?_)
    refine Cl.sumL hA'.hh ?_
    refine Ev.bi (Ev.ce rfl rfl rfl (.t (.t (.t (.t .h)))) rfl (Ev.ce rfl rfl rfl .h rfl (Bin.subI (Bin.subI ⟨rfl,?_⟩))))
    exact .le .cell (.le .ns0 .rest)
  ·intro _; exact .le .cell (.le .ns0 .rest)
 ·refine rP (show (fun d:Int×Int=>D.int (((days.filter fun e=>decide (d.1<=e.1) && decide (e.1<hour)).map (·.2)).sum - (hour - d.1)))=D.int∘fun d:Int×Int=>(((days.filter fun e=>decide (d.1<=e.1) && decide (e.1<hour)).map (·.2)).sum - (hour - d.1)) from rfl) (rQ aG ?_)
  refine Bin.addL ?_ ?_
  ·refine rP (am _) (rP (am _) (rP ai ?_)); have:=bi (fun d:Int×Int=>decide (d.1<hour)) days; simp; exact nD (aQ (aC _) (nT this hz)) rfl
  ·refine Evs.ni ⟨.bui,?_⟩
   refine Cl.maxL (ns:=0::_) hA'.hh (by simp) ?_
   exact ⟨_,.drop (.drop (.drop .rest)),h⟩
end
end
end Mine.Internal
end
section
open PySem PySem.W PySem.F PyProof.Rows
namespace Mine.Internal
section
set_option tactic.hygienic true
open Sys
noncomputable def bC (cs:bw):List (Int×Int):=cs.map fun p=>((p.1:Int),(p.2.n:Int))
theorem gi (cs:bw):bC cs=(List.range cs.length).map fun k=>((cm cs k:Int),((wd cs k).n:Int)):=by
 refine (congrArg bC (cs_eq cs)).trans ?_
 unfold bC
 refine rP aG ?_; rfl
theorem bR (cs:bw):(bC cs).length=cs.length:=am _
theorem cQ {cs:bw}{k:Nat} (hk:k<cs.length):dy (bC cs) k=((cm cs k:Int),((wd cs k).n:Int)):=by
 unfold dy
 refine rP (gi _) (rP aF (rP aK (rP (List.getElem?_range hk) ?_))); rfl
section
variable {cs:bw}{lt:Nat->Nat->Bool}
theorem busy_sum (A:Nat->Bool){r:Nat} (hr:r<cs.length) (h:Nat) :
  (((((List.range cs.length).filter A).filter fun j=>decide ((dy (bC cs) r).1<=(dy (bC cs) j).1) && decide ((dy (bC cs) j).1<(h:Int))).map fun j=>(dy (bC cs) j).2).sum:Int)=(((bB cs lt).W A (cm cs r) h:Nat):Int):=by
 refine rP List.filter_filter (rP (aP (g:=fun j=>(((wd cs j).n:Nat):Int)) fun j hj=>by rw [cQ (List.mem_range.mp (List.mem_filter.mp hj).1)]) ?_)
 have e:((List.range cs.length).filter fun j=>(decide ((dy (bC cs) r).1<=(dy (bC cs) j).1) && decide ((dy (bC cs) j).1<(h:Int))) && A j)=(List.range cs.length).filter fun j=>A j && decide (cm cs r<=cm cs j) && decide (cm cs j<h):=List.filter_congr fun j hj=>by
  refine rP (cQ (List.mem_range.mp hj)) (rP (cQ hr) (rP (propext (Bool.eq_iff_iff)) ?_))
  simp only [Bool.and_eq_true,decide_eq_true_eq,Int.ofNat_le,Int.ofNat_lt]
  exact ⟨fun x=>⟨⟨x.2,x.1.1⟩,x.1.2⟩,fun x=>⟨⟨x.1.2,x.2⟩,x.1.1⟩⟩
 refine rP e ?_
 refine (?_:(List.map ((fun x:Nat=>(x:Int))∘fun k=>(wd cs k).n) _).sum=_)
 refine rQ aG (rP (fX _) (rP (dq _ _ _) ?_)); rfl
theorem iW (o:(bB cs lt).Ok){A:Nat->Bool} (u:(bB cs lt).Up A) (h:Nat) :
  ((List.range cs.length).filter A).any (cg (bC cs) ((List.range cs.length).filter A) (h:Int))=decide (0<(bB cs lt).X A h):=by
 have bz:∀ r,r<cs.length->(cg (bC cs) ((List.range cs.length).filter A) (h:Int) r=true↔cm cs r<h/\h - cm cs r<(bB cs lt).W A (cm cs r) h):=fun r hr=>by
  unfold cg
  refine rP (busy_sum (lt:=lt) A hr _) (rP (cQ hr) ?_)
  simp only [Bool.and_eq_true,decide_eq_true_eq]
  exact wgt
 refine rP (propext (Bool.eq_iff_iff)) (rP (propext (List.any_eq_true)) (rP decide_eq_true_eq ?_))
 have T:=X_test o u h
 constructor
 ·rintro ⟨r,hr,b⟩
  have hm:=List.mem_filter.mp hr
  have hn:=List.mem_range.mp hm.1
  have b:=(bz r hn).mp b
  have:=mt (fun z=>T.mp z r hn hm.2 b.1) (by show ¬ (bB cs lt).W A (cm cs r) h<=h - cm cs r; exact aN b.2)
  exact bn this
 ·intro p
  have:=mt T.mpr (by exact Nat.ne_of_gt p)
  obtain ⟨r,this⟩:=Classical.not_forall.mp this
  obtain ⟨hr,this⟩:=Classical.not_imp.mp this
  obtain ⟨ar,this⟩:=Classical.not_imp.mp this
  obtain ⟨hc,this⟩:=Classical.not_imp.mp this
  exact ⟨r,List.mem_filter.mpr ⟨List.mem_range.mpr hr,ar⟩,(bz r hr).mpr ⟨hc,by change ¬ (bB cs lt).W A (cm cs r) h<=h - cm cs r at this; exact Nat.lt_of_not_le this⟩⟩
theorem cR (o:(bB cs lt).Ok) (h:Nat):cV (bC cs) (h:Int)=(((bB cs lt).X (fun u_=>true) h:Nat):Int):=by
 unfold cV
 have key:∀ r,r<cs.length->((((bC cs).filter fun e=>decide ((cm cs r:Int)<=e.1) && decide (e.1<(h:Int))).map (·.2)).sum:Int)=(((bB cs lt).W (fun u_=>true) (cm cs r) h:Nat):Int):=fun r hr=>by
  refine rP (gi _) (rP List.filter_map (rP aG ?_))
  have e:((List.range cs.length).filter ((fun e:Int×Int=>decide ((cm cs r:Int)<=e.1) && decide (e.1<(h:Int)))∘fun k=>((cm cs k:Int),((wd cs k).n:Int))))=(List.range cs.length).filter fun j=>true && decide (cm cs r<=cm cs j) && decide (cm cs j<h):=List.filter_congr fun j u_=>by
   refine rP (propext (Bool.eq_iff_iff)) ?_
   simp only [Function.comp,Bool.and_eq_true,decide_eq_true_eq,Int.ofNat_le,Int.ofNat_lt,true_and]
  refine rP e ?_
  refine (?_:(List.map ((fun x:Nat=>(x:Int))∘fun k=>(wd cs k).n) _).sum=_)
  refine rQ aG (rP (fX _) (rP (dq _ _ _) ?_)); rfl
 refine mx_is ?_ ?_
 ·by_cases q:0<(bB cs lt).X (fun u_=>true) h
  ·obtain ⟨s,h1,h2,j,hj,_,hc⟩:=lj o (fun u_ u_ u_ u_ u_ u_=>rfl) q
   refine .tail _ (List.mem_map.mpr ⟨((cm cs j:Int),((wd cs j).n:Int)),List.mem_filter.mpr ⟨?_,?_⟩,?_⟩)
   ·refine rP (gi _) ?_; exact List.mem_map.mpr ⟨j,List.mem_range.mpr hj,rfl⟩
   ·have hc:cm cs j=s:=hc
    simp; exact nT (aB (aq hc)) h1
   ·refine rP (key j hj) ?_
    have hc:cm cs j=s:=hc
    refine rP hc (rP h2 ?_); dsimp only; lia
  ·have:(bB cs lt).X (fun u_=>true) h=0:=by exact bg (aZ q)
   refine rP this ?_; exact .head _
 ·intro a ha
  rcases List.mem_cons.mp ha with e | e
  ·refine rP e ?_; exact aW _
  ·obtain ⟨d,hd,rfl⟩:=List.mem_map.mp e
   obtain ⟨hd,hc⟩:=List.mem_filter.mp hd
   rw [gi] at hd
   obtain ⟨r,hr,rfl⟩:=List.mem_map.mp hd
   have hr:=List.mem_range.mp hr
   refine rP (key r hr) ?_
   simp only [decide_eq_true_eq] at hc
   have:=X_ge o (A:=fun u_=>true) (fun u_ u_ u_ u_ u_ u_=>rfl) (r:=cm cs r) (t:=h) (by exact nL (Int.ofNat_lt.1 hc))
   dsimp only; lia
theorem least {P:Nat->Prop} [DecidablePred P]{T:Nat} (h:P T):∃ m,m<=T/\P m/\∀ x,x<m->¬ P x:=by
 induction T with
 | zero=>exact ⟨0,aC _,h,fun x hx=>absurd hx (Nat.not_lt_zero _)⟩
 | succ T ih=>
  by_cases q:∃ x,x<=T/\P x
  ·obtain ⟨x,hx,px⟩:=q
   have:∀ x,x<=T->P x->∃ m,m<=x/\P m/\∀ y,y<m->¬ P y:=fun x=>by
    induction x using Nat.strongRecOn with
    | _ x ih=>
     intro hx px
     by_cases r:∃ y,y<x/\P y
     ·obtain ⟨y,hy,py⟩:=r
      obtain ⟨m,h1,h2⟩:=ih y hy (by exact nT (nL hy) hx) py
      exact ⟨m,by exact nT h1 (nL hy),h2⟩
     ·exact ⟨x,aC _,px,fun y hy py=>r ⟨y,hy,py⟩⟩
   obtain ⟨m,h1,h2⟩:=this x hx px
   exact ⟨m,by exact nT h1 (nT hx (aD _ _)),h2⟩
  ·exact ⟨T+1,aC _,h,fun x hx px=>q ⟨x,by exact Nat.sub_le_of_le_add hx,px⟩⟩
theorem iX (g:eO cs):lastT cs=cm cs (cs.length - 1):=by
 unfold lastT cm
 refine rP List.getLast?_eq_getElem? (rP aF (rP (ao (by have:=g.n1; exact Nat.sub_lt_self (by decide) this)) ?_)); rfl
structure Hrs (cs:bw) (E:Nat):Prop where
 e:E<=20
 on:∀ x,x<E->0<cV (bC cs) ((lastT cs+1+x:Nat):Int)
 off:cV (bC cs) ((lastT cs+1+E:Nat):Int)=0
theorem ex_hrs (g:eO cs):∃ E,Hrs cs E:=by
 have o:=okL g
 have b:sm (cE cs).work (cE cs).n<=12:=by
  have:=sm_le (n:=cs.length) (f:=(cE cs).work) (g:=fun u_=>3) fun j hj=>by have:=(g.nn j hj); show (wd cs j).n<=3; unfold Wo.n; exact aQ this.2.1 this.2.2
  have h3:∀ n,sm (fun u_=>3) n=3*n:=fun n=>by induction n with
   | zero=>rfl
   | succ n ih=>refine rP (bJ _ _) (rP ih ?_); rfl
  rw [h3] at this
  have:=g.n4
  refine (?_:sm (cE cs).work cs.length<=12)
  lia
 have top:∀ j,j<(cE cs).n->(cE cs).came j<=lastT cs:=fun j hj=>by
  refine rP (iX g) ?_
  have hj:j<cs.length:=hj
  exact g.srt j _ (by exact Nat.le_sub_of_add_le hj) (by exact Nat.sub_one_lt_of_lt hj)
 obtain ⟨m,h1,h2,h3⟩:=least (P:=fun x=>(cE cs).X (fun u_=>true) (lastT cs+1+x)=0) (T:=12) (ll o top (by exact aQ (aD _ _) b) g.n1)
 refine ⟨m,by exact nD h1 rfl,fun x hx=>?_,?_⟩
 ·refine rP (cR o _) ?_; have:=h3 x hx; show (0:Int)<(((cE cs).X (fun u_=>true) (lastT cs+1+x):Nat):Int); exact iT (bn this)
 ·refine rP (cR o _) (rP h2 ?_); rfl
theorem gY (t:Nat) (h:0<t):(((bB cs lt).lefts t).getLast?).getD 0=(((bB cs lt).X (fun u_=>true) t:Nat):Int):=by
 obtain ⟨u,rfl⟩:∃ u,t=u+1:=⟨t - 1,by exact Nat.succ_sub h⟩
 refine rP cb (rP List.getLast?_concat ?_); rfl
theorem oH (o:(bB cs lt).Ok){E:Nat} (H:Hrs cs E){t:Nat} (h:t<lastT cs+1+E):tst cs t ((bB cs lt).lefts t)=true:=by
 unfold tst
 by_cases q:t<=lastT cs
 ·refine rP (be q) ?_; rfl
 ·have:=H.on (t - (lastT cs+1)) (by omega)
  rw [show lastT cs+1+(t - (lastT cs+1))=t by exact Nat.add_sub_cancel' (Nat.lt_of_not_le q),cR o] at this
  exact rP (gY t (by exact nT (Nat.le_add_left _ _) (Nat.lt_of_not_le q))) (rP (be this) (rP (Bool.or_true _) rfl))
theorem kt (o:(bB cs lt).Ok){E:Nat} (H:Hrs cs E):tst cs (lastT cs+1+E) ((bB cs lt).lefts (lastT cs+1+E))=false:=by
 unfold tst
 have:=H.off
 rw [cR o] at this
 refine rP (gY _ (by lia)) (rP this (rP (bf (by exact aN (aD _ _))) ?_)); rfl
noncomputable def cz (cs:bw) (lt:Nat->Nat->Bool) (e:Nat->Nat):Due:=⟨bC cs,fun j i=>!lt i j,lt,fun i=>e i - 1 - cm cs i⟩
section
variable {e:Nat->Nat}
theorem gj:(cz cs lt e).n=cs.length:=bR cs
theorem gZ {i:Nat} (hi:i<cs.length):(cz cs lt e).ca i=(cm cs i:Int):=by show (dy (bC cs) i).1=_; exact rP (cQ hi) rfl
theorem jI (o:(bB cs lt).Ok) (E:(bB cs lt).End e){i:Nat} (hi:i<cs.length):(cz cs lt e).en i=(e i:Int):=by
 unfold Due.en
 refine rP (gZ hi) ?_
 have:cm cs i<e i:=E.came o hi
 exact ecm this
theorem due_ah (i:Nat):(cz cs lt e).ah i=(List.range cs.length).filter ((bB cs lt).upTo i):=by
 unfold Due.ah
 refine rP gj ?_; rfl
theorem oI (o:(bB cs lt).Ok) (E:(bB cs lt).End e){H:Nat} (hx:(bB cs lt).X (fun u_=>true) H=0) (hc:∀ k,k<cs.length->cm cs k<H){i:Nat} (hi:i<cs.length):e i<=H/\(bB cs lt).rem H i=0:=by
 have:=sm_zero.mp hx i hi
 have c:(bB cs lt).came i<H:=hc i hi
 rw [aY (by simpa using c)] at this
 refine ⟨?_,this⟩
 have:=mt (E.at' i hi H).mpr (by exact Nat.not_lt_of_le (aq this))
 exact aZ this
theorem due_good (g:eO cs) (o:(bB cs lt).Ok) (E:(bB cs lt).End e){H:Nat} (hH:H<=1000) (he:∀ i,i<cs.length->e i<=H):(cz cs lt e).Good:=by
 refine ⟨by refine rP gj ?_; exact g.n4,fun i hi=>?_,fun i hi=>?_,fun i hi x hx=>?_,fun i hi=>?_⟩ <;> rw [gj] at hi
 ·refine rP (gZ hi) ?_; have:=g.top i hi; exact ⟨(aW _),(iL (nD this rfl))⟩
 ·have:=he i hi; show e i - 1 - cm cs i<=1000; exact nT (Nat.sub_le _ _) (nT (Nat.sub_le _ _) (nT this hH))
 ·have hc:cm cs i<e i:=E.came o hi
  replace hx:x<e i - 1 - cm cs i:=hx
  refine rP (due_ah _) ?_
  refine (?_:List.any _ (cg (bC cs) _ ((dy (bC cs) i).1+1+(x:Int)))=true)
  refine rP (cQ hi) (rP (show ((cm cs i:Int)+1+(x:Int))=((cm cs i+1+x:Nat):Int) by rfl) (rP (iW o (kk o hi) _) ?_))
  exact be (iB E o hi (by show cm cs i<_; exact aD _ _) (exl hx))
 ·have hc:cm cs i<e i:=E.came o hi
  refine rP (due_ah _) ?_
  refine (?_:List.any _ (cg (bC cs) _ ((dy (bC cs) i).1+1+((e i - 1 - cm cs i:Nat):Int)))=false)
  refine rP (cQ hi) (rP (show ((cm cs i:Int)+1+((e i - 1 - cm cs i:Nat):Int))=((e i:Nat):Int) from ecm hc) (rP (iW o (kk o hi) _) (rP (X_end o E hi) ?_))); rfl
theorem jJ {f:Nat->Nat}{a b H:Nat} (hab:a<=b) (hb:b<=H) (h:∀ u,u<a\/b<=u->f u=0):sm f H=sm (fun x=>f (a+x)) (b - a):=by
 have e1:=lm f b (H - b)
 have e2:=lm f a (b - a)
 rw [show b+(H - b)=H by exact Nat.add_sub_cancel' hb] at e1
 rw [show a+(b - a)=b by exact Nat.add_sub_cancel' hab] at e2
 have z1:sm (fun x=>f (b+x)) (H - b)=0:=sm_zero.mpr fun x u_=>h _ (.inr (by exact aD _ _))
 have z2:sm f a=0:=sm_zero.mpr fun x hx=>h _ (.inl hx)
 exact rP e1 (rP z1 (rP e2 (rP z2 (rP (Nat.add_zero _) (rP (Nat.zero_add _) rfl)))))
theorem nat_free (o:(bB cs lt).Ok) (E:(bB cs lt).End e){i u:Nat} (hi:i<cs.length) (h1:cm cs i<=u) (h2:u<e i):(cz cs lt e).free i (u:Int)=(bB cs lt).sv u i:=by
 unfold Due.free
 refine rP (propext (Bool.eq_iff_iff)) (rP (propext (nK E hi)) (rP (propext (List.isEmpty_iff)) (rP (propext (List.filter_eq_nil_iff)) (rP gj ?_))))
 constructor
 ·intro a
  refine ⟨h1,h2,fun j hj hl p=>a j (List.mem_range.mpr hj) ?_⟩
  have hj:j<cs.length:=hj
  have p1:cm cs j<=u:=p.1
  refine rP (gZ hj) (rP (jI o E hj) ?_)
  simp only [Bool.and_eq_true,decide_eq_true_eq]
  exact ⟨hl,by exact iL p1,by have:=p.2; exact iT this⟩
 ·rintro ⟨_,_,a⟩ j hj q
  have hj:=List.mem_range.mp hj
  rw [gZ hj,jI o E hj] at q
  simp only [Bool.and_eq_true,decide_eq_true_eq] at q
  exact a j hj q.1 ⟨by show cm cs j<=u; exact Int.ofNat_le.1 q.2.1,by exact Int.ofNat_lt.1 q.2.2⟩
theorem jK (E:(bB cs lt).End e){i u:Nat} (hi:i<cs.length) (h:u<cm cs i\/e i<=u):(bB cs lt).sv u i=false:=by
 cases q:(bB cs lt).sv u i with
 | false=>rfl
 | true=>
  obtain ⟨a,b,_⟩:=(nK E hi).mp q
  have a:cm cs i<=u:=a
  lia
section
variable (o:(bB cs lt).Ok) (E:(bB cs lt).End e){H:Nat} (he:∀ i,i<cs.length->e i<=H){i:Nat} (hi:i<cs.length)
include o E he hi
theorem hrs_eq:(cz cs lt e).hrs i=((List.range (e i - cm cs i)).filter fun x=>(bB cs lt).sv (cm cs i+x) i).map fun x:Nat=>((cm cs i+x:Nat):Int):=by
 unfold Due.hrs
 refine rP (gZ hi) (rP (jI o E hi) (rP (show ((e i:Int) - (cm cs i:Int)).toNat=e i - cm cs i by exact Int.toNat_sub _ _) ?_))
 have hc:cm cs i<e i:=E.came o hi
 rw [List.filter_congr (q:=fun x=>(bB cs lt).sv (cm cs i+x) i) fun x hx=>by
  have:=List.mem_range.mp hx
  rw [<- Int.natCast_add]
  exact nat_free o E hi (by exact aD _ _) (by exact subLt' this)]
 exact aP fun x u_=>(Int.natCast_add _ _).symm
theorem hrs_nsv:((cz cs lt e).hrs i).length=(bB cs lt).nsv H i:=by
 have hc:cm cs i<e i:=E.came o hi
 refine rP (hrs_eq o E he hi) (rP (am _) (rP (eI _ _) ?_))
 unfold nsv
 exact rP (jJ (a:=cm cs i) (b:=e i) (by exact nL hc) (he i hi) fun u hu=>by rw [jK E hi hu]; rfl) rfl
theorem tms_nwt {j:Nat} (hj:j<cs.length):(cz cs lt e).tms i j=(bB cs lt).nwt H i j:=by
 have hc:cm cs i<e i:=E.came o hi
 unfold Due.tms
 refine rP (hrs_eq o E he hi) (rP List.filter_map (rP (am _) (rP List.filter_filter (rP (eI _ _) ?_))))
 unfold nwt
 refine rP (jJ (a:=cm cs i) (b:=e i) (by exact nL hc) (he i hi) fun u hu=>by rw [jK E hi hu]; rfl) ?_
 refine cu fun x hx=>?_
 have:((((fun u:Int=>decide ((j:Int)≠(i:Int)) && (decide ((cz cs lt e).ca j<=u) && decide (u<(cz cs lt e).en j)))∘fun x:Nat=>((cm cs i+x:Nat):Int)) x && (bB cs lt).sv (cm cs i+x) i)=true)↔(((bB cs lt).sv (cm cs i+x) i && (decide (j≠i) && (bB cs lt).prb (cm cs i+x) j))=true):=by
  simp only [Function.comp,Bool.and_eq_true,decide_eq_true_eq]
  refine rP (propext (prb_iff)) (rP (gZ hj) (rP (jI o E hj) ?_))
  unfold pres
  refine rP (propext (E.at' j hj _)) ?_
  constructor
  ·rintro ⟨⟨a,b,c⟩,d⟩
   exact ⟨d,by lia,by show cm cs j<=_; exact Int.ofNat_le.1 b,by exact Int.ofNat_lt.1 c⟩
  ·rintro ⟨d,a,b,c⟩
   have b:cm cs j<=cm cs i+x:=b
   exact ⟨⟨by lia,by exact iL b,by exact iT c⟩,d⟩
 by_cases q:((bB cs lt).sv (cm cs i+x) i && (decide (j≠i) && (bB cs lt).prb (cm cs i+x) j))=true
 ·exact rP (aY q) (rP (aY (this.mpr q)) rfl)
 ·exact rP (aX q) (rP (aX (mt this.mp q)) rfl)
theorem oJ (h4:cs.length<=4):Cal cs.length ((bB cs lt).nwt H i) ((cz cs lt e).waits i):=by
 have key:∀ m,m<=cs.length->Cal cs.length (fun j=>if j<m then (bB cs lt).nwt H i j else 0) ((List.range m).foldl ((cz cs lt e).wstep i) []):=fun m=>by
  induction m with
  | zero=>intro _; exact Cal.nil fun j u_=>rfl
  | succ m ih=>
   intro hm
   have:=ih (by exact nL hm)
   refine rP List.range_succ (rP List.foldl_append ?_)
   refine (?_:Cal _ _ (Due.wstep _ i _ m))
   unfold Due.wstep
   refine rP (tms_nwt o E he hi (show m<cs.length by exact hm)) ?_
   split
   ·rename_i h0
    refine (this.set h4 (show m<cs.length by exact hm) h0).congr fun j hj=>?_
    by_cases q:j=m
    ·exact rP (aY q) (rP (aY (by exact aB (aq q))) (rP q rfl))
    ·refine rP (aX q) ?_
     by_cases r:j<m
     ·exact rP (aY r) (rP (aY (by exact nT r (aD _ _))) rfl)
     ·exact rP (aX r) (rP (aX (by lia)) rfl)
   ·refine this.congr fun j hj=>?_
    by_cases q:j=m
    ·refine rP (aX (by exact Nat.not_lt_of_le (aq q.symm))) (rP (aY (by exact aB (aq q))) (rP q ?_)); lia
    ·by_cases r:j<m
     ·exact rP (aY r) (rP (aY (by exact nT r (aD _ _))) rfl)
     ·exact rP (aX r) (rP (aX (by omega)) rfl)
 unfold Due.waits
 refine rP gj ?_
 exact (key _ (aC _)).congr fun j hj=>aY hj
end
theorem All2.nil {P:D->D->Prop}:All2 P [] []:=⟨rfl,fun j x y h=>by exact nS h⟩
theorem All2.cons {P:D->D->Prop}{a b:D}{l m:List D} (h:P a b) (t:All2 P l m):All2 P (a::l) (b::m):=⟨by exact rP aJ (rP aJ (rP t.1 rfl)),fun j x y hx hy=>by
 induction j using Nat.casesAuxOn with
 | zero=>cases hx; cases hy; exact h
 | succ j=>exact t.2 j x y hx hy⟩
theorem Same.int {a b:Int} (n:Nat) (h:a=b):Same n (.int a) (.int b):=by
 subst h
 have:lD (.int a) (.int a)=some true:=by show some (a == a)=_; exact rP (bq _) rfl
 induction n using Nat.casesAuxOn with
 | zero=>exact this
 | succ n=>exact .inl this
theorem Cal.same {n:Nat} (h4:n<=4){f:Nat->Nat}{l m:List (Str×Int)} (c:Cal n f l) (d:Cal n f m):Same 2 (.dic (iD l)) (.dic (iD m)):=by
 refine .inr (.inr (.inr ⟨_,_,rfl,rfl,?_,fun p hp=>?_⟩))
 ·unfold iD; exact rP (am _) (rP (am _) (rP ((c.perm h4).length_eq) (rP ((d.perm h4).length_eq) rfl)))
 ·obtain ⟨q,hq,rfl⟩:=List.mem_map.mp hp
  obtain ⟨x,v⟩:=q
  obtain ⟨j,hj,e⟩:=c.ks x (bc (f:=(·.1)) hq)
  have lk:=fj c.nd hq
  subst e
  refine ⟨.int v,?_,Same.int 1 rfl⟩
  refine rP (kg _ _) ?_
  unfold iget
  refine rP (d.lk j hj) (rQ (c.lk j hj) (rP lk ?_)); rfl
theorem oK (h4:cs.length<=4):(cz cs lt e).due=(List.range cs.length).map fun i=>(sg (gch i),((cz cs lt e).ent i).d):=by
 have key:∀ m,m<=cs.length->(List.range m).foldl (cz cs lt e).bstep []=(List.range m).map fun i=>(sg (gch i),((cz cs lt e).ent i).d):=fun m=>by
  induction m with
  | zero=>intro _; rfl
  | succ m ih=>
   intro hm
   refine rP List.range_succ (rP List.foldl_append (rP (ih (by exact nL hm)) (rP aI ?_)))
   refine (?_:Due.bstep _ _ m=_)
   unfold Due.bstep
   refine rP (dset_u _ _ _) ?_
   unfold jP
   rw [aX fun q=>?_]
   ·rfl
   ·have:=any_key.mp q
    rw [aG] at this
    obtain ⟨j,hj,e2⟩:=List.mem_map.mp this
    have hj:=List.mem_range.mp hj
    have:=dP (by exact nT hj (nT (nL hm) h4)) (by exact nT hm h4) e2
    exact aN hj (aq this.symm)
 unfold Due.due
 refine rP gj ?_; exact key _ (aC _)
theorem oM (o:(bB cs lt).Ok){k:Nat}:∀ t,(bB cs lt).nsv t k+(bB cs lt).rem t k=(bB cs lt).work k
 | 0=>Nat.zero_add _
 | t+1=>by
  have:=oM o (k:=k) t
  unfold nsv at *
  refine rP (bJ _ _) (rP (bH _ _) ?_)
  cases q:(bB cs lt).sv t k with
  | false=>exact this
  | true=>
   have:=(sv_iff.mp q).1.2
   simp only [if_true]; lia
structure WEnd (cs:bw) (lt:Nat->Nat->Bool) (e:Nat->Nat) (b:cZ):Prop where
 same:Same 4 (.dic (cr b)) (.dic (cz cs lt e).due)
 good:(cz cs lt e).Good
 ct:∀ k,k<cs.length->∃ x,b.lookup (sg (gch k))=some x/\x.ct=(e k:Int)
 cnt:∀ p∈b,(p.2.by'.map (·.2)).sum=p.2.tt
 len:b.length<=4
theorem fin_of (g:eO cs) (o:(bB cs lt).Ok) (E:(bB cs lt).End e){H:Nat} (hH:H<=1000) (hx:(bB cs lt).X (fun u_=>true) H=0) (hc:∀ k,k<cs.length->cm cs k<H){b:cZ} (B:BookInv (bB cs lt) e H b):WEnd cs lt e b:=by
 have he:=fun i hi=>(oI o E hx hc (i:=i) hi).1
 have r0:=fun i hi=>(oI o E hx hc (i:=i) hi).2
 have ns:∀ k,k<cs.length->0<(bB cs lt).nsv H k:=fun k hk=>by
  have:=oM o (k:=k) H
  rw [r0 k hk] at this
  have:=o.w k hk
  lia
 have lk:∀ k,k<cs.length->∃ x,b.lookup (sg (gch k))=some x/\EntInv (bB cs lt) e H k x:=fun k hk=>by
  have m:=(B.lk k hk).mpr (ns k hk)
  have I:=B.en k hk
  unfold old at I
  cases q:b.lookup (sg (gch k)) with
  | none=>exact absurd m (look_none.mp q)
  | some x=>rw [q] at I; exact ⟨x,rfl,I⟩
 have at':∀ p∈b,∃ k,k<cs.length/\p.1=sg (gch k)/\EntInv (bB cs lt) e H k p.2:=fun p hp=>by
  obtain ⟨x,y⟩:=p
  obtain ⟨k,hk,rfl⟩:=B.ks x (bc (f:=(·.1)) hp)
  obtain ⟨z,h1,h2⟩:=lk k hk
  rw [fj B.nd hp] at h1
  cases h1
  exact ⟨k,hk,rfl,h2⟩
 refine ⟨.inr (.inr (.inr ⟨_,_,rfl,rfl,?_,fun p hp=>?_⟩)),due_good g o E hH he,fun k hk=>?_,fun p hp=>?_,B.len g.n4⟩
 ·have:=(B.perm g.n4).length_eq
  rw [am,am] at this
  have q:=List.filter_eq_self.mpr fun j hj=>be (ns j (List.mem_range.mp hj))
  unfold cr
  refine rP (am _) (rP this (rP (oK g.n4) (rP (am _) ?_)))
  exact congrArg List.length q
 ·obtain ⟨q,hq,rfl⟩:=List.mem_map.mp hp
  obtain ⟨k,hk,e1,I⟩:=at' q hq
  have wc:=oJ o E he hk g.n4
  refine ⟨((cz cs lt e).ent k).d,?_,.inr (.inl ⟨_,_,rfl,rfl,?_⟩)⟩
  ·refine (?_:cM _ q.1=_)
   refine rP e1 (rP (oK g.n4) ?_)
   refine fj ?_ (List.mem_map.mpr ⟨k,List.mem_range.mpr hk,rfl⟩)
   refine rP aG ?_
   refine cB _ List.nodup_range fun x hx y hy q=>?_
   have:=List.mem_range.mp hx
   have:=List.mem_range.mp hy
   have:=g.n4
   exact dP (by lia) (by lia) q
  ·refine .cons (.int 2 ?_) (.cons (.int 2 ?_) (.cons (.int 2 ?_) (.cons (.int 2 ?_) (.cons ?_ .nil))))
   ·refine rP I.cc (rP (aY (r0 k hk)) ?_); rfl
   ·refine rP I.nc (rQ (hrs_nsv o E he hk) ?_); rfl
   ·refine rP I.tt ?_; exact (wc.sum g.n4).symm
   ·refine rP I.ct (rP (aY (r0 k hk)) ?_); exact (jI o E hk).symm
   ·exact Cal.same g.n4 I.cal wc
 ·obtain ⟨x,h1,h2⟩:=lk k hk
  exact ⟨x,h1,by exact rP h2.ct (rP (aY (r0 k hk)) rfl)⟩
 ·obtain ⟨k,hk,_,I⟩:=at' p hp
  refine rP (I.cal.sum g.n4) (rP I.tt ?_); rfl
end
end
end
section
noncomputable def csOf (T:Nat->Nat) (cn:List Nat):bw:=(List.range cn.length).map fun k=>(cn.getD k 0,woN (T (k+1)) (gch k))
theorem csOf_len (T:Nat->Nat) (cn:List Nat):(csOf T cn).length=cn.length:=by unfold csOf; exact rP (am _) (rP aM rfl)
theorem gm (cn:List Nat) (k:Nat):(cn.map fun x:Nat=>(x:Int)).getD k 0=((cn.getD k 0:Nat):Int):=by
 refine rP aF (rP aF (rP aK ?_))
 cases cn[k]? <;> rfl
theorem oN (T:Nat->Nat) (cn:List Nat):kl (csOf T cn) = .lst ((List.range cn.length).map (cD T (cn.map fun x:Nat=>(x:Int)))):=by
 unfold kl csOf
 refine rP aG ?_
 congr 1
 refine aP fun k u_=>?_
 unfold cD
 refine rP (gm _ _) ?_; rfl
theorem All2.self {P:D->D->Prop}:∀ {l:List D},(∀ x∈l,P x x)->All2 P l l
 | [],_=>.nil
 | a::l,h=>.cons (h a (.head _)) (All2.self fun x hx=>h x (.tail _ hx))
theorem cD_same (T:Nat->Nat) (cm:List Int) (k:Nat):TSame (cD T cm k) (cD T cm k):=
 ⟨_,_,rfl,rfl,.cons (by show some (_ == _)=_; exact rP (bq _) rfl) (.cons (by show some (_ == _)=_; exact rP (bq _) rfl) .nil)⟩
section
variable {c:Cst}{A:Around}{led:Led}{Q:D->Led->Prop}{QF:Fl->Led->Prop}
theorem oO (ok:c.Ok) (B:Bui c) (hA:Aok A 3) (f:Fra) (f19:Def c t19.1 ⟨⟨[95,108,97,119,95,116,111,108,100]⟩⟩) (f20:Def c t20.1 ⟨⟨[95,108,97,119,95,99,111,109,105,110,103,115]⟩⟩) (row:List Int) (h4:row.length=4) (hz:∀ ns,dE row=some ns->ns.length<=100){m:List (Str×D)}
  (hm:At led f.e.locals (.ns m)) (hr:m.lookup mA=some (.lst (row.map .int))) (h:Q (.lst ((bK (dE row)).map .int)) led):Ev c A f.e (lwE 10) led Q:=by
 refine f20.F.ev ok f20.g rfl rfl rfl rfl rfl rfl (Evs.co rfl (f19.F.ev ok f19.g rfl rfl rfl rfl rfl rfl (Evs.co rfl (Ev.lo rfl rfl hm hr rfl (Evs.ni (w19 ok B (hA.le (by decide)) f19.F row h4 (Evs.ni (wcom ok B (hA.le (by decide)) f20.F _ hz h))))))))
theorem lwCheck (ok:c.Ok) (B:Bui c) (hA:Aok A 3) (f:Fra) (T:Nat->Nat) (cm:List Int) (h4:cm.length<=4){K:Addr} (lb:List (Str×D)->Led) (U:∀ m m',Up (lb m) f.e.locals (.ns m) (.ns m') (lb m')) (h6:∀ m,At (lb m) f.a6 (.cell (some (.lst ((List.range 4).map fun k=>gC (T (k+1)) (gch k))))))
  (h7:∀ m,At (lb m) f.a7 (.cell (some (.lst (cm.map .int))))) (m:List (Str×D)) (hc:m.lookup dM=some (.ref K)) (h:QF .next (lb ((dM,.lst ((List.range cm.length).map (cD T cm)))::m))) :
  Ex c A f.e (lwS 11) ((K,.lst ((List.range cm.length).map (cD T cm)))::lb m) QF:=by
 refine Ex.ite (Tst.cmp rfl (Ev.frz rfl rfl hc rfl .h (U _ _) frzL ok ?_))
 refine Ev.compR (n:=cm.length) (p:=fun u_=>true) (f:=cD T cm) hA.hh rfl rfl (by decide) (fun u_=>rfl) ?_
 refine Ev.ca rfl rfl (Ev.bui ok rfl rfl rfl rfl B.range'.1 B.range'.2 rfl (Evs.co rfl (Ev.ca rfl rfl (Ev.bui ok rfl rfl rfl rfl B.len'.1 B.len'.2 rfl (Evs.co rfl (Ev.ce rfl rfl rfl (h7 _) rfl (Evs.ni ⟨.bui,Cl.lenL (by exact szM h4 rfl) (Evs.ni ⟨.typ,Cl.rng1 ⟨by exact rP (am _) rfl,by exact nD h4 rfl,?_,?_⟩⟩)⟩)))))))
 ·intro acc out I rest k hk C2
  refine Asg.lo rfl rfl .h ⟨rfl,Ev.tup (Evs.co rfl (Ev.sub (Ev.ce rfl rfl rfl (.t (.t (.t (h7 _)))) rfl (Ev.lo rfl rfl .h rfl rfl (Sub.ints cm (fun u_ u_=>rfl) rfl (by exact nD h4 rfl) hk ?_)))))⟩
  refine Evs.co rfl (Ev.sub (Ev.sub (Ev.ce rfl rfl rfl (.t (.t (.t (h6 _)))) rfl (Ev.lo rfl rfl .h rfl rfl (Sub.nth (j:=k) rfl (fun u_ u_=>rfl) (by decide) (by exact nT hk h4) (Ev.cn 0 ?_))))))
  exact Sub.tup (fun u_ u_=>rfl) (by refine rP ai ?_; exact (by decide:4<=16777216)) (by exact (by decide:-(4:Int)<=0)) (by exact (by decide:(0:Int)<4)) rfl (Evs.ni ⟨by refine rP ai ?_; exact (by decide:2<=16777216),rfl,.le .ns0 .rest⟩)
 ·refine rP (List.filter_eq_self.mpr (fun u_ u_=>rfl)) ?_
  refine Cmp.neL (.self fun x hx=>?_) (by have:=hA.hu; unfold cLine; exact nD (aB (aB (nR this))) rfl) ⟨_,rfl,?_⟩
  ·obtain ⟨k,_,rfl⟩:=List.mem_map.mp hx
   exact cD_same T cm k
  ·refine ifF (by decide) ?_; exact Exs.ni h
theorem lwDays (ok:c.Ok) (B:Bui c) (hA:Aok A 3) (f:Fra) (cs:bw) (hz:cs.length<=100) (hw:∀ p∈cs,p.2.n<=100){m:List (Str×D)} (hm:At led f.e.locals (.ns m)) (hc:m.lookup dM=some (kl cs)) (h:Q (jx (bC cs)) led):Ev c A f.e (lwE 12) led Q:=by
 refine Ev.compL (xs:=cs) (g:=fun p=>.tup [.int (p.1:Int),.str p.2.s]) (p:=fun u_=>true) (f:=fun p=>.tup [.int (p.1:Int),.int (p.2.n:Int)]) hA.hh rfl rfl (by decide) (fun u_=>rfl) ?_
 refine Ev.lo rfl rfl hm hc rfl ⟨rfl,by exact szD hz rfl,?_,?_⟩
 ·intro acc out I rest p hp C2
  refine Asg.tup hA.hh rfl rfl (Asg.lo rfl rfl .h (Asg.lo rfl rfl .h ⟨rfl,Ev.tup (Evs.co rfl (Ev.lo rfl rfl .h rfl rfl (Evs.co rfl (Ev.bi (Ev.ca rfl rfl (Ev.bui ok rfl rfl rfl rfl B.len'.1 B.len'.2 rfl (Evs.co rfl (Ev.lo rfl rfl .h rfl rfl (Evs.ni ⟨.bui,Cl.lenS ?_ (Ev.cn 1 (Bin.subI (Evs.ni ⟨by refine rP ai ?_; exact (by decide:2<=16777216),?_,.le .ns0 .rest⟩))) ⟩)))))))))⟩))
  ·refine rP (Wo.len _) (rP ai ?_); have:=hw p hp; exact nD (aB this) rfl
  ·exact rP (Wo.len _) (rP (show ((p.2.n+1:Nat):Int) - 1=(p.2.n:Int) by exact prC _) rfl)
 ·refine rP (List.filter_eq_self.mpr (fun u_ u_=>rfl)) ?_
  have e:jx (bC cs) = .lst (cs.map fun p=>.tup [.int (p.1:Int),.int (p.2.n:Int)]):=by unfold jx bC; refine rP aG ?_; rfl
  refine rQ e ?_; exact h
theorem lwMany (ok:c.Ok) (B:Bui c) (hA:Aok A 3) (f:Fra) (days:List (Int×Int)) (hz:days.length<=100) (h8:At led f.a8 (.cell (some (jx days)))) (h:Q (.rng 0 (days.length:Int)) led):Ev c A f.e (lwE 13) led Q:=by
 refine Ev.ca rfl rfl (Ev.bui ok rfl rfl rfl rfl B.range'.1 B.range'.2 rfl (Evs.co rfl (Ev.ca rfl rfl (Ev.bui ok rfl rfl rfl rfl B.len'.1 B.len'.2 rfl (Evs.co rfl (Ev.ce rfl rfl rfl h8 rfl (Evs.ni ⟨.bui,Cl.lenL (by exact szM hz rfl) (Evs.ni ⟨.typ,Cl.rng1 (by refine rP (am _) ?_; exact h)⟩)⟩)))))))
end
end
section
open Sys
noncomputable def bZ (cs:bw) (e:Nat->Nat):List Int:=(List.range cs.length).map fun k=>((e k:Nat):Int) - (cm cs k:Int)
theorem oP (a:Int) (l:List Int):mx (a::l)∈a::l/\∀ b∈a::l,b<=mx (a::l):=by
 obtain ⟨h1,h2,h3⟩:=fw l a
 refine ⟨?_,fun b hb=>?_⟩
 ·rcases h3 with h | h
  ·rw [mx,h]; exact .head _
  ·exact .tail _ h
 ·rcases List.mem_cons.mp hb with e | e
  ·refine rP e ?_; exact h1
  ·exact h2 b e
theorem mx_le {l m:List Int} (h:l≠[]) (h2:m≠[]) (k:∀ a∈l,∃ b∈m,a<=b):mx l<=mx m:=by
 obtain ⟨a,l,rfl⟩:=List.exists_cons_of_ne_nil h
 obtain ⟨b,m,rfl⟩:=List.exists_cons_of_ne_nil h2
 obtain ⟨x,hx,hl⟩:=k _ (oP a l).1
 have:=(oP b m).2 x hx
 exact Int.le_trans hl this
variable {cs:bw}
theorem kx (g:eO cs) (e:Nat->Nat):bZ cs e≠[]:=fun h=>by
 have:=congrArg List.length h
 unfold bZ at this
 rw [am,aM] at this
 have:=g.n1
 simp_all
theorem stay_le (g:eO cs){e e':Nat->Nat} (E:(cE cs).End e){lt:Nat->Nat->Bool} (o':(bB cs lt).Ok) (E':(bB cs lt).End e'):mx (bZ cs e)<=mx (bZ cs e'):=by
 refine mx_le (kx g e) (kx g e') fun a ha=>?_
 obtain ⟨i,hi,rfl⟩:=List.mem_map.mp ha
 have hi:=List.mem_range.mp hi
 obtain ⟨j,hj,h⟩:=fifo (okL g) o' E E' rfl rfl rfl (fun u_ u_=>rfl) g.srt hi
 refine ⟨_,List.mem_map.mpr ⟨j,List.mem_range.mpr hj,rfl⟩,?_⟩
 have h:e i+cm cs j<=e' j+cm cs i:=h
 lia
theorem mem_wd {p:Nat×Wo} (h:p∈cs):∃ k,k<cs.length/\p.2=wd cs k:=by
 rw [cs_eq cs] at h
 obtain ⟨k,hk,rfl⟩:=List.mem_map.mp h
 exact ⟨k,List.mem_range.mp hk,rfl⟩
theorem comOk (g:eO cs):km cs:=⟨fun h=>by have:=g.n1; rw [h] at this; exact absurd this (by decide),by have:=g.n4; exact nD this rfl,fun p hp=>by
 obtain ⟨k,hk,e⟩:=mem_wd hp
 have:=g.nn k hk
 refine rP e ?_
 exact ⟨by refine rP (g.ch k hk) ?_; exact gch_ne k,by exact nD this.2.1 rfl,by exact nD this.2.2 rfl⟩⟩
theorem com20 (g:eO cs):∀ p∈cs,p.2.n<=20:=fun p hp=>by
 obtain ⟨k,hk,e⟩:=mem_wd hp
 have:=g.nn k hk
 refine rP e ?_; unfold Wo.n; exact nD (aQ this.2.1 this.2.2) rfl
theorem iY {S:Sys}{t:Nat}{L:List Nat} (h:L.Perm (S.act t)):L.length<=S.n:=by
 refine rP h.length_eq ?_
 exact Nat.le_trans (bi _ _) (by refine rP aM ?_; exact aC _)
section
variable {E:Nat} (g:eO cs) (H:Hrs cs E)
include g H
theorem ky:lastT cs+1+E<=41:=by
 have:=H.e
 have:=iX g
 have:=g.top (cs.length - 1) (by have:=g.n1; exact Nat.sub_lt_self (by decide) this)
 lia
theorem came_lt {k:Nat} (hk:k<cs.length):cm cs k<lastT cs+1+E:=by
 refine rP (iX g) ?_
 have:=g.srt k (cs.length - 1) (by exact Nat.le_sub_of_add_le hk) (by exact Nat.sub_one_lt_of_lt hk)
 lia
structure Way (cs:bw) (E:Nat) (lt:Nat->Nat->Bool) (b:cZ) (left:List Int) (e:Nat->Nat):Prop where
 fin:WEnd cs lt e b
 lf:left=(List.range (lastT cs+1+E)).map fun j:Nat=>cV (bC cs) (1+(j:Int))
 st:∀ {eL:Nat->Nat},(cE cs).End eL->mx (bZ cs eL)<=mx (bZ cs e)
theorem oQ {lt:Nat->Nat->Bool} (o:(bB cs lt).Ok){e:Nat->Nat} (En:(bB cs lt).End e){b:cZ}{left:List Int} (hl:left=(bB cs lt).lefts (lastT cs+1+E)) (B:BookInv (bB cs lt) e (lastT cs+1+E) b):Way cs E lt b left e:=by
 have hx:(bB cs lt).X (fun u_=>true) (lastT cs+1+E)=0:=by
  have:=H.off
  rw [cR o] at this
  exact Int.toNat_of_nonpos (Int.le_of_eq this)
 refine ⟨fin_of g o En (by have:=ky g H; exact nD this rfl) hx (fun k hk=>came_lt g H hk) B,?_,fun EL=>stay_le g EL o En⟩
 refine rP hl ?_
 refine aP fun j u_=>?_
 exact rQ (cR o _) (rP (show ((j+1:Nat):Int)=1+(j:Int) by lia) rfl)
theorem oR {e:Nat->Nat} (En:(cE cs).End e){t:Nat} (ht:t<=900):(bN cs t).Good:=by
 have I:=du g En t
 have w:=W0.of g (fun j k=>decide (j<k))
 have all:∀ x∈(bN cs t).hand.toList++(bN cs t).q,x.Ok:=fun x hx=>by
  rw [I.l] at hx
  obtain ⟨k,hk,rfl⟩:=List.mem_map.mp hx
  exact w.wok (mem_act.mp hk).1 t
 have hln:=congrArg List.length I.l
 rw [aH,am] at hln
 have hact:=iY (List.Perm.refl ((cE cs).act t))
 have n4:(cE cs).n<=4:=g.n4
 refine ⟨fun x hx=>all x (by refine rP hx ?_; exact .head _),fun x hx=>all x (List.mem_append_right _ hx),by lia,Nat.le_trans (I.b.len g.n4) (by decide),fun k=>Nat.le_trans (I.b.by' g.n4 k) (by decide),by refine rP (gc _ _) ?_; exact ht⟩
theorem oS {e:Nat->Nat} (En:(cC cs).End e){t:Nat} (ht:t<=900):(bU cs t).Good:=by
 have I:=dv g En t
 have w:=p0ok g (fun j k=>decide (k<j))
 have hact:=iY (List.Perm.refl ((cC cs).act t))
 have n4:(cC cs).n<=4:=g.n4
 refine ⟨fun x hx=>?_,by refine rP I.l (rP (am _) ?_); exact nD (nT hact n4) rfl,Nat.le_trans (I.b.len g.n4) (by decide),fun k=>Nat.le_trans (I.b.by' g.n4 k) (by decide),by refine rP (ge _ _) ?_; exact ht⟩
 rw [I.l] at hx
 obtain ⟨k,hk,rfl⟩:=List.mem_map.mp hx
 have:=w.wok (mem_act.mp hk).1 t
 rw [p0wf] at this
 exact this
theorem mo {ks:List (Nat×Int)} (K:KsOk ks){e:Nat->Nat} (En:(cU cs ks).End e){t:Nat} (ht:t<=900):(bM cs ks t).Good:=by
 have I:=cy g K En t
 have w:=W0.of g (fun j k=>ltx ((rkB cs ks j).zip (rkB cs ks k)))
 obtain ⟨L,hL,pL⟩:=I.l
 have hact:=iY pL
 have n4:(cU cs ks).n<=4:=g.n4
 refine ⟨fun x hx=>?_,by refine rP hL (rP (am _) ?_); exact nD (nT hact n4) rfl,Nat.le_trans (I.b.len g.n4) (by decide),fun k=>Nat.le_trans (I.b.by' g.n4 k) (by decide),by refine rP (eM _ _ _) ?_; exact ht⟩
 rw [hL] at hx
 obtain ⟨k,hk,rfl⟩:=List.mem_map.mp hx
 exact w.wok (mem_act.mp (pL.mem_iff.mp hk)).1 t
theorem bench_nd {ks:List (Nat×Int)} (K:KsOk ks){e:Nat->Nat} (En:(cU cs ks).End e) (t:Nat):(((bM cs ks t).cs++jO cs t).map (·.k)).Nodup:=by
 have I:=cy g K En t
 obtain ⟨L,hL,pL⟩:=I.l
 refine rP hL (rP (oG cs ks _) (rQ aI (rP aG ?_)))
 have e2:(L++(cU cs ks).new t).map ((·.k)∘cardT cs ks t)=L++(cU cs ks).new t:=List.map_id _
 refine rP e2 ?_
 exact ((pL.append_right _).trans (lq (okB g K))).nodup_iff.mpr (bQ _)
end
end
section
section
variable {c:Cst}{A:Around}{led:Led}{Q:D->Led->Prop}{a:Addr}{fd:FuncData}
inductive V14 (ns:List Int) (C:Addr) (led:Led) (ds:List D) (l:Led):Prop
 | mk (rs:List Int) (k:Int) (m:List (Str×D)):ds=rs.map .int->l=(C,.ns m)::led->m.lookup ⟨⟨[110,99]⟩⟩=some (.int k)->k+rs.sum=ns.sum->V14 ns C led ds l
theorem w14 (ok:c.Ok) (hA:Aok A 2) (F:FnAt c a t14.1 fd) (kvs:List (Str×D)) (ns:List Int) (hv:kvs.map (·.2)=ns.map .int) (h:Q (.int ns.sum) led):Cc c A (.ref a) [.dic kvs] led Q:=by
 refine F.call ok hA (F.bind1 (x:=⟨⟨[99,97,108,108,101,114,115]⟩⟩) fun v=>fun u_ u_ u_ u_ u_ u_ u_ u_ u_ u_ u_ u_=>rfl) rfl rfl ?_
 intro C A' hA'
 refine Sto.lo rfl rfl .h ?_
 refine Exs.co (Ex.asg rfl (Ev.cn 0 (Asg.lo rfl rfl .h ?_)))
 refine Exs.co (Ex.for_ (fun u_=>rfl) ?_)
 refine Ev.meth rfl rfl rfl rfl (Ev.lo rfl rfl .h rfl rfl (Mth.dic slot_dict_values rfl (Evs.ni ⟨.bui,Cl.values (Itr.vws fun I=>?_)⟩)))
 refine ⟨I,_,_,_,_,rfl,Cur.it hA'.hh _ I,rfl,V14 ns C led,⟨ns,0,_,hv,rfl,rfl,by exact Int.zero_add _⟩,fun u_ u_ u_=>trivial,?_,?_⟩
 ·rintro d rest l ⟨rs,k,m,e,rfl,hm,hs⟩
  induction rs using List.casesOn with
  | nil=>exact cN' e
  | cons r rs=>
   cases e
   refine Asg.lo rfl rfl (.t .h) ?_
   refine Exs.co (Ex.augN (Ldn.loc rfl rfl (.t .h) hm (Ev.lo rfl rfl (.t .h) rfl rfl (Inp.addI (Sto.lo rfl rfl (.t .h) ?_)))))
   refine Exs.ni ⟨_,.h,rs,k+r,_,rfl,rfl,rfl,?_⟩
   rw [List.sum_cons] at hs; exact iSw hs
 ·rintro l ⟨rs,k,m,e,rfl,hm,hs⟩
  induction rs using List.casesOn with
  | cons r rs=>exact nC e
  | nil=>
   refine Exs.co (Ex.ret (Ev.lo rfl rfl .h hm rfl ⟨_,.drop .rest,?_⟩))
   refine rP (show k=ns.sum by simpa using hs) ?_
   exact h
end
end
section
open Sys
noncomputable abbrev nRuns:Str:=⟨⟨[114,117,110,115]⟩⟩
noncomputable abbrev nStays:Str:=⟨⟨[115,116,97,121,115]⟩⟩
noncomputable abbrev oU:Str:=⟨⟨[114,97,110,107,115]⟩⟩
noncomputable abbrev fk:Str:=⟨⟨[100,117,101,95,108,101,102,116]⟩⟩
noncomputable def cK (col:Nat) (w:Nat->Int):List (Nat×Int):=[(col,w 0),(1 - col,w 1),(2,w 2)]
noncomputable def runD (b:cZ) (left:List Int):D:=.tup [.dic (cr b),.lst (left.map .int)]
structure RunD (c:Cst) (cs:bw) (E:Nat) where
 lt:Nat->Nat->Bool
 e:Nat->Nat
 b:cZ
 left:List Int
 rk:Nat->D
 way:Way cs E lt b left e
 hle:∀ (A:Around) (led:Led) (Q:D->Led->Prop) (j i:Nat),j<cs.length->i<cs.length->A.units<cLine->Q (.bool (!lt i j)) led->Cmp c A .LtE (rk j) (rk i) led Q
 hlt:∀ (A:Around) (led:Led) (Q:D->Led->Prop) (j i:Nat),j<cs.length->i<cs.length->A.units<cLine->Q (.bool (lt j i)) led->Cmp c A .Lt (rk j) (rk i) led Q
noncomputable def RunD.d {c:Cst}{cs:bw}{E:Nat} (r:RunD c cs E):D:=runD r.b r.left
theorem jL (k:Str):∀ b:cZ,cM (cr b) k=(b.lookup k).map Ent.d
 | []=>rfl
 | (x,y)::l=>by
  refine (?_:List.lookup k ((x,y.d)::cr l)=_)
  refine rP aS (rP aS ?_)
  cases q:k == x
  ·exact jL k l
  ·rfl
section
variable {c:Cst}{A:Around}{led:Led}{Q:D->Led->Prop}{QF:Fl->Led->Prop}
theorem lwRuns (ok:c.Ok) (B:Bui c) (hA:Aok A 13) (f:Fra) (L:Lx c) (P:Ac c) (T:Tc c) (N:Nt c) (f22:Def c t22.1 ⟨⟨[95,108,97,119,95,108,105,110,101]⟩⟩) (f23:Def c t23.1 ⟨⟨[95,108,97,119,95,112,105,108,101]⟩⟩) (f24:Def c t24.1 ⟨⟨[95,108,97,119,95,98,101,110,99,104]⟩⟩)
  {cs:bw} (g:eO cs){E:Nat} (H:Hrs cs E){col:Nat} (hcol:col<2) (w:Nat->Int) (K:KsOk (cK col w)){m:List (Str×D)} (hm:At led f.e.locals (.ns m)) (hc:m.lookup dM=some (kl cs)) (h4:At led f.a4 (.cell (some (.int (col:Int))))) (h5:At led f.a5 (.cell (some (.lst [.int (w 0),.int (w 1),.int (w 2)]))))
  (hT:At led L.T L.tab) (hP:At led P.T .tabG){eL eP eB:Nat->Nat} (EL:(cE cs).End eL) (EP:(cC cs).End eP) (EB:(cU cs (cK col w)).End eB)
  (h:Q (.lst [runD (bN cs (lastT cs+1+E)).book (bN cs (lastT cs+1+E)).left,runD (bU cs (lastT cs+1+E)).book (bU cs (lastT cs+1+E)).left,runD (bM cs (cK col w) (lastT cs+1+E)).book (bM cs (cK col w) (lastT cs+1+E)).left]) led):Ev c A f.e (lwE 14) led Q:=by
 have hb:=ky g H
 refine Ev.lst (Evs.co rfl (f22.F.ev ok f22.g rfl rfl rfl rfl rfl rfl (Evs.co rfl (Ev.lo rfl rfl hm hc rfl (Evs.ni ?_)))))
 refine w22 ok B (hA.le (by decide)) f22.F L N cs (comOk g) (lastT cs+1+E) (fun t ht=>by refine rP ((du g EL t).lf) ?_; exact oH (okL g) H ht) (by refine rP ((du g EL _).lf) ?_; exact kt (okL g) H) (fun t ht=>oR g H EL (by exact nD (nT ht hb) rfl)) hT ?_
 refine Evs.co rfl (f23.F.ev ok f23.g rfl rfl rfl rfl rfl rfl (Evs.co rfl (Ev.lo rfl rfl hm hc rfl (Evs.ni ?_))))
 refine w23 ok B (hA.le (by decide)) f23.F P N cs (comOk g) (com20 g) (lastT cs+1+E) (fun t ht=>by refine rP ((dv g EP t).lf) ?_; exact oH (okP g) H ht) (by refine rP ((dv g EP _).lf) ?_; exact kt (okP g) H) (fun t ht=>oS g H EP (by exact nD (nT ht hb) rfl)) hP ?_
 refine Evs.co rfl (f24.F.ev ok f24.g rfl rfl rfl rfl rfl rfl (Evs.co rfl (Ev.lo rfl rfl hm hc rfl (Evs.co rfl (Ev.tup (Evs.co rfl (Ev.tup (Evs.co rfl (Ev.ce rfl rfl rfl h4 rfl (Evs.co rfl (Ev.sub (Ev.ce rfl rfl rfl h5 rfl (Ev.cn 0 (Sub.lst (fun u_ u_=>rfl) ?a1 ?a2 ?a3 rfl (Evs.ni ⟨?s2,?_⟩)))))))))))))))
 case a1=>refine rP ai ?_; exact (by decide:3<=16777216)
 case a2=>exact (by decide:-(3:Int)<=0)
 case a3=>exact (by decide:(0:Int)<3)
 case s2=>refine rP ai ?_; exact (by decide:2<=16777216)
 refine Evs.co rfl (Ev.tup (Evs.co rfl (Ev.bi (Ev.cn 1 (Ev.ce rfl rfl rfl h4 rfl (Bin.subI ?_))))))
 refine rP (show (1:Int) - (col:Int)=((1 - col:Nat):Int) by exact i1s hcol) ?_
 refine Evs.co rfl (Ev.sub (Ev.ce rfl rfl rfl h5 rfl (Ev.cn 1 (Sub.lst (fun u_ u_=>rfl) ?a1 ?a2 ?a3 rfl (Evs.ni ⟨?s2,?_⟩)))))
 case a1=>refine rP ai ?_; exact (by decide:3<=16777216)
 case a2=>exact (by decide:-(3:Int)<=1)
 case a3=>exact (by decide:(1:Int)<3)
 case s2=>refine rP ai ?_; exact (by decide:2<=16777216)
 refine Evs.co rfl (Ev.tup (Evs.co rfl (Ev.cn 2 (Evs.co rfl (Ev.sub (Ev.ce rfl rfl rfl h5 rfl (Ev.cn 2 (Sub.lst (fun u_ u_=>rfl) ?a1 ?a2 ?a3 rfl (Evs.ni ⟨?s2,?_⟩)))))))))
 case a1=>refine rP ai ?_; exact (by decide:3<=16777216)
 case a2=>exact (by decide:-(3:Int)<=2)
 case a3=>exact (by decide:(2:Int)<3)
 case s2=>refine rP ai ?_; exact (by decide:2<=16777216)
 refine Evs.ni ⟨by refine rP ai ?_; exact (by decide:3<=16777216),Evs.ni ?_⟩
 refine w24 (ks:=cK col w) ok B (hA.le (by decide)) f24.F T N cs (comOk g) (fun k hk=>?_) (lastT cs+1+E) (fun t ht=>by refine rP ((cy g K EB t).lf) ?_; exact oH (okB g K) H ht) (by refine rP ((cy g K EB _).lf) ?_; exact kt (okB g K) H) (fun t ht=>mo g H K EB (by exact nD (nT ht hb) rfl)) (fun t u_=>bench_nd g H K EB t) ?_
 ·simp [cK] at hk
  rcases hk with rfl | rfl | rfl
  ·refine (?_:col<3); lia
  ·refine (?_:1 - col<3); exact nD (aB (nT (Nat.sub_le _ _) (aC _))) rfl
  ·refine (?_:2<3); exact aC _
 ·exact Evs.ni ⟨by refine rP ai ?_; exact (by decide:3<=16777216),h⟩
variable {cs:bw}{E:Nat} (R:Nat->RunD c cs E)
theorem lwStays (ok:c.Ok) (B:Bui c) (hA:Aok A 3) (f:Fra) (g:eO cs){m:List (Str×D)}{led':Led} (u:Up led f.e.locals (.ns m) (.ns ((nStays,.lst ((List.range 3).map fun i=>.int (mx (bZ cs (R i).e))))::m)) led') (hr:m.lookup nRuns=some (.lst ((List.range 3).map fun i=>(R i).d)))
  (h8:At led f.a8 (.cell (some (jx (bC cs))))) (h9:At led f.a9 (.cell (some (.rng 0 (cs.length:Int))))) (h:QF .next led'):Ex c A f.e (lwS 15) led QF:=by
 have n4:=g.n4
 refine Ex.asgCompO (xs:=List.range 3) (g:=fun i=>(R i).d) (p:=fun u_=>true) (f:=fun i=>.int (mx (bZ cs (R i).e))) hA.hh rfl rfl rfl rfl rfl (by decide) (fun u_=>rfl) ?_
 refine Ev.lo rfl rfl u.at hr rfl ⟨.lst,by rw [ai]; exact (by decide:3<=16777216),?_,?_⟩
 ·intro acc out I rest i hi C2 b1
  refine Asg.tup hA.hh rfl rfl (Asg.cel rfl rfl rfl .h rfl (Asg.lo rfl rfl (.t .h) ⟨rfl,Ev.ca rfl rfl (Ev.bui ok rfl rfl rfl rfl B.max'.1 B.max'.2 rfl (Evs.co rfl ?_))⟩))
  refine Ev.compR (n:=cs.length) (p:=fun u_=>true) (f:=fun k=>.int (((R i).e k:Int) - (cm cs k:Int))) hA.hh rfl rfl (by decide) (fun u_=>rfl) ?_
  refine Ev.ce rfl rfl rfl (.t (.t (.t (.t h9)))) rfl ⟨rfl,by exact nD n4 rfl,?_,?_⟩
  ·intro acc2 out2 I2 rest2 k hk C3
   obtain ⟨x,hx,hct⟩:=(R i).way.fin.ct k hk
   have hd:cM (cr (R i).b) (sg (gch k))=some x.d:=by refine rP (jL _ _) (rP hx ?_); rfl
   refine Asg.lo rfl rfl .h ⟨rfl,Ev.bi (Ev.sub (Ev.sub (Ev.ce rfl rfl rfl (.t (.t (.t .h))) rfl (Ev.sign (fun u_ u_=>rfl) (Ev.lo rfl rfl .h rfl rfl ⟨k,rfl,by exact nT hk n4,Sub.dic (fun u_ u_=>rfl) hd (Ev.cn 3 ?_)⟩)))))⟩
   refine Sub.tup (fun u_ u_=>rfl) (by refine rP ai ?_; exact (by decide:5<=16777216)) (by exact (by decide:-(5:Int)<=3)) (by exact (by decide:(3:Int)<5)) rfl ?_
   refine Ev.day0 (fun u_ u_=>rfl) (by refine rP (bR _) ?_; exact nD n4 rfl) (Ev.ce rfl rfl rfl (.t (.t (.t (.t (.t (.t (.t h8))))))) rfl ⟨rfl,Ev.lo rfl rfl .h rfl rfl ⟨k,rfl,by refine rP (bR _) ?_; exact hk,Bin.subI ⟨?_,.le .ns0 .rest⟩⟩⟩)
   exact rP (cQ hk) (rP hct rfl)
  ·refine rP (List.filter_eq_self.mpr (fun u_ u_=>rfl)) ?_
   have e:(List.range cs.length).map (fun k=>D.int (((R i).e k:Int) - (cm cs k:Int)))=(bZ cs (R i).e).map .int:=by unfold bZ; refine rP aG ?_; rfl
   refine rP e ?_
   exact Evs.ni ⟨.bui,Cl.maxL hA.hh (kx g _) ⟨rfl,.le .cell (.le .ns0 .rest)⟩⟩
 ·refine rP (List.filter_eq_self.mpr (fun u_ u_=>rfl)) ?_
  exact ⟨m,led',u,h⟩
end
end
section
open Sys
noncomputable def dayI (cs:bw) (k col:Nat):Int:=if col=0 then (cm cs k:Int) else ((wd cs k).n:Int)
noncomputable def rk2 (cs:bw) (col:Nat) (w:Nat->Int) (k:Nat):List Int:=[w 0*dayI cs k (1 - col),w 1*dayI cs k col,w 2*(k:Int)]
theorem lA (cs:bw){col:Nat} (hcol:col<2) (w:Nat->Int) (k:Nat):rk2 cs col w k=rkB cs (cK col w) k:=by
 rcases (show col=0\/col=1 by exact or2 hcol) with rfl | rfl <;> rfl
theorem mq (l:List Int):Same 4 (.lst (l.map .int)) (.lst (l.map .int)):=.inr (.inr (.inl ⟨_,_,rfl,rfl,.self fun x hx=>by
 obtain ⟨i,_,rfl⟩:=List.mem_map.mp hx
 refine (?_:some (i == i)=_)
 exact rP (bq _) rfl⟩))
section
variable {c:Cst}{A:Around}{led:Led}{Q:D->Led->Prop}{QF:Fl->Led->Prop}{cs:bw}{E:Nat} (R:Nat->RunD c cs E)
theorem lwStayIf (ok:c.Ok) (B:Bui c) (hh:A.handled=none) (f:Fra){m:List (Str×D)} (hm:At led f.e.locals (.ns m)) (hr:m.lookup nStays=some (.lst ((List.range 3).map fun i=>.int (mx (bZ cs (R i).e))))){eL:Nat->Nat} (h0:(R 0).e=eL) (EL:(cE cs).End eL) (h:QF .next led):Ex c A f.e (lwS 16) led QF:=by
 refine Ex.ite (Tst.cmp rfl (Ev.sub (Ev.lo rfl rfl hm hr rfl (Ev.cn 0 (Sub.nth (j:=0) rfl (fun u_ u_=>rfl) (by decide) (by decide) (Ev.ca rfl rfl (Ev.bui ok rfl rfl rfl rfl B.min'.1 B.min'.2 rfl (Evs.co rfl (Ev.lo rfl rfl hm hr rfl (Evs.ni ⟨.bui,?_⟩))))))))))
 have e:(List.range 3).map (fun i=>D.int (mx (bZ cs (R i).e)))=[mx (bZ cs (R 0).e),mx (bZ cs (R 1).e),mx (bZ cs (R 2).e)].map .int:=rfl
 refine rP e ?_
 have l1:=(R 1).way.st EL
 have l2:=(R 2).way.st EL
 rw [<- h0] at l1 l2
 have em:mn [mx (bZ cs (R 0).e),mx (bZ cs (R 1).e),mx (bZ cs (R 2).e)]=mx (bZ cs (R 0).e):=mn_is (.head _) (by simp; exact ⟨l1,l2⟩)
 refine Cl.minL hh (by simp) (Cmp.gtI ⟨_,rfl,?_⟩)
 refine rP em (rP (bf (by exact Int.not_lt.2 (Int.le_refl _))) (ifF (by decide) ?_))
 exact Exs.ni h
theorem lwRanks (hh:A.handled=none) (f:Fra) (hz:cs.length<=100) (col:Nat) (hcol:col<2) (w:Nat->Int) (hw:∀ i,-10<=w i/\w i<=10) (h4:At led f.a4 (.cell (some (.int (col:Int))))) (h5:At led f.a5 (.cell (some (.lst [.int (w 0),.int (w 1),.int (w 2)]))))
  (h8:At led f.a8 (.cell (some (jx (bC cs))))) (h9:At led f.a9 (.cell (some (.rng 0 (cs.length:Int))))) (h:Q (.lst [.lst ((List.range cs.length).map fun k:Nat=>.int (k:Int)),.lst ((List.range cs.length).map fun k:Nat=>.int (-(k:Int))),.lst ((List.range cs.length).map fun k=>.tup ((rk2 cs col w k).map .int))]) led):Ev c A f.e (lwE 17) led Q:=by
 refine Ev.lst (Evs.co rfl ?_)
 refine Ev.compR (n:=cs.length) (p:=fun u_=>true) (f:=fun k:Nat=>.int (k:Int)) hh rfl rfl (by decide) (fun u_=>rfl) (Ev.ce rfl rfl rfl h9 rfl ⟨rfl,by exact nD hz rfl,fun acc out I rest k hk C2=>Asg.lo rfl rfl .h ⟨rfl,Ev.lo rfl rfl .h rfl rfl ⟨rfl,.le .ns0 .rest⟩⟩,?_⟩)
 refine rP (List.filter_eq_self.mpr (fun u_ u_=>rfl)) ?_
 refine Evs.co rfl (Ev.compR (n:=cs.length) (p:=fun u_=>true) (f:=fun k:Nat=>.int (-(k:Int))) hh rfl rfl (by decide) (fun u_=>rfl) (Ev.ce rfl rfl rfl h9 rfl ⟨rfl,by exact nD hz rfl,fun acc out I rest k hk C2=>Asg.lo rfl rfl .h ⟨rfl,Ev.una (Ev.lo rfl rfl .h rfl rfl (Una.negI ⟨rfl,.le .ns0 .rest⟩))⟩,?_⟩))
 refine rP (List.filter_eq_self.mpr (fun u_ u_=>rfl)) ?_
 refine Evs.co rfl (Ev.compR (n:=cs.length) (p:=fun u_=>true) (f:=fun k=>.tup ((rk2 cs col w k).map .int)) hh rfl rfl (by decide) (fun u_=>rfl) (Ev.ce rfl rfl rfl h9 rfl ⟨rfl,by exact nD hz rfl,?_,?_⟩))
 ·intro acc out I rest k hk C2
  have day:∀ {Q:D->Led->Prop}{led:Led}{val sl:Expr}{j:Nat},eC sl->j<2->Q (.int (dayI cs k j)) led->Sub c A val sl (.tup [.int (cm cs k:Int),.int ((wd cs k).n:Int)]) (.int (j:Int)) led Q:=fun {Q led val sl j} hs hj q=>by
   refine Sub.tup hs (by refine rP ai ?_; exact (by decide:2<=16777216)) (by show -(2:Int)<=_; exact iN rfl) (by show _<(2:Int); exact iT hj) ?_ q
   refine rP cq ?_
   rcases (show j=0\/j=1 by exact or2 hj) with rfl | rfl <;> rfl
  have dk:∀ {Q:D->Led->Prop}{led:Led}{val sl:Expr},eC sl->Q (.tup [.int (cm cs k:Int),.int ((wd cs k).n:Int)]) led->Sub c A val sl (jx (bC cs)) (.int (k:Int)) led Q:=fun {Q led val sl} hs q=>by
   refine Sub.lst hs (by refine rP (am _) (rP (bR _) (rP ai ?_)); exact nD hz rfl) (by exact iM) (by refine rP (am _) (rP (bR _) ?_); exact iT hk) ?_ q
   refine rP cq (rP aK (rP (gi _) (rP aK (rP (List.getElem?_range hk) ?_)))); rfl
  refine Asg.lo rfl rfl .h ⟨rfl,Ev.tup (Evs.co rfl (Ev.bi (Ev.sub (Ev.ce rfl rfl rfl (.t (.t (.t h5))) rfl (Ev.cn 0 (Sub.lst (fun u_ u_=>rfl) ?a1 ?a2 ?a3 rfl ?_))))))⟩
  case a1=>refine rP ai ?_; exact (by decide:3<=16777216)
  case a2=>exact (by decide:-(3:Int)<=0)
  case a3=>exact (by decide:(0:Int)<3)
  refine Ev.sub (Ev.sub (Ev.ce rfl rfl rfl (.t (.t (.t h8))) rfl (Ev.lo rfl rfl .h rfl rfl (dk (fun u_ u_=>rfl) (Ev.bi (Ev.cn 1 (Ev.ce rfl rfl rfl (.t (.t (.t h4))) rfl (Bin.subI ?_))))))))
  have b0:=hw 0
  have b1:=hw 1
  have b2:=hw 2
  refine rP (show (1:Int) - (col:Int)=((1 - col:Nat):Int) by exact i1s hcol) ?_
  refine day (fun u_ u_=>rfl) (by exact aB (nT (Nat.sub_le _ _) (aC _))) (Bin.mulI (by exact Int.lt_of_lt_of_le (by decide) b0.1) (by exact bo b0.2 (by decide)) (Evs.co rfl (Ev.bi (Ev.sub (Ev.ce rfl rfl rfl (.t (.t (.t h5))) rfl (Ev.cn 1 (Sub.lst (fun u_ u_=>rfl) ?a1 ?a2 ?a3 rfl ?_)))))))
  case a1=>refine rP ai ?_; exact (by decide:3<=16777216)
  case a2=>exact (by decide:-(3:Int)<=1)
  case a3=>exact (by decide:(1:Int)<3)
  refine Ev.sub (Ev.sub (Ev.ce rfl rfl rfl (.t (.t (.t h8))) rfl (Ev.lo rfl rfl .h rfl rfl (dk (fun u_ u_=>rfl) (Ev.ce rfl rfl rfl (.t (.t (.t h4))) rfl (day (fun u_ u_=>rfl) hcol (Bin.mulI (by exact Int.lt_of_lt_of_le (by decide) b1.1) (by exact bo b1.2 (by decide)) ?_)))))))
  refine Evs.co rfl (Ev.bi (Ev.sub (Ev.ce rfl rfl rfl (.t (.t (.t h5))) rfl (Ev.cn 2 (Sub.lst (fun u_ u_=>rfl) ?a1 ?a2 ?a3 rfl (Ev.lo rfl rfl .h rfl rfl (Bin.mulI (by exact Int.lt_of_lt_of_le (by decide) b2.1) (by exact bo b2.2 (by decide)) (Evs.ni ⟨?s3,rfl,.le .ns0 .rest⟩))))))))
  case a1=>refine rP ai ?_; exact (by decide:3<=16777216)
  case a2=>exact (by decide:-(3:Int)<=2)
  case a3=>exact (by decide:(2:Int)<3)
  case s3=>refine rP ai ?_; exact (by decide:3<=16777216)
 ·refine rP (List.filter_eq_self.mpr (fun u_ u_=>rfl)) ?_
  exact Evs.ni ⟨by refine rP ai ?_; exact (by decide:3<=16777216),h⟩
theorem oV (ok:c.Ok) (B:Bui c) (hA:Aok A 3) (f:Fra) (g:eO cs) (H:Hrs cs E) (f25:Def c t25.1 ⟨⟨[95,108,97,119,95,101,110,100]⟩⟩) (f27:Def c t27.1 ⟨⟨[95,108,97,119,95,108,101,102,116]⟩⟩){m:List (Str×D)}{led':Led}
  (u:Up led f.e.locals (.ns m) (.ns ((fk,.lst (((List.range (lastT cs+1+E)).map fun j:Nat=>cV (bC cs) (1+(j:Int))).map .int))::m)) led')
  (h8:At led f.a8 (.cell (some (jx (bC cs))))) (h9:At led f.a9 (.cell (some (.rng 0 (cs.length:Int))))) (h:QF .next led'):Ex c A f.e (lwS 18) led QF:=by
 have n4:=g.n4
 have n1:=g.n1
 have o:=okL g
 have hb:=ky g H
 have hd0:(dy (bC cs) (cs.length - 1)).1=(lastT cs:Int):=by exact rP (cQ (by exact Nat.sub_lt_self (by decide) n1)) (rP (iX g) rfl)
 have ft:(List.range cs.length).filter (fun u_=>true)=List.range cs.length:=List.filter_eq_self.mpr (fun u_ u_=>rfl)
 have bz:∀ t:Nat,(List.range cs.length).any (cg (bC cs) (List.range cs.length) (t:Int))=decide (0<cV (bC cs) (t:Int)):=fun t=>by
  have:=iW o (A:=fun u_=>true) (fun u_ u_ u_ u_ u_ u_=>rfl) t
  rw [ft] at this
  refine rP this (rP (cR o _) ?_)
  exact decide_eq_decide.mpr (by exact Int.ofNat_le.symm)
 refine Ex.asgCompO (xs:=List.range (lastT cs+1+E)) (g:=fun j:Nat=>.int (1+(j:Int))) (p:=fun u_=>true) (f:=fun j:Nat=>.int (cV (bC cs) (1+(j:Int)))) hA.hh rfl rfl rfl rfl rfl (by decide) (fun u_=>rfl) ?_
 refine Ev.ca rfl rfl (Ev.bui ok rfl rfl rfl rfl B.range'.1 B.range'.2 rfl (Evs.co rfl (Ev.cn 1 (Evs.co rfl (Ev.bi (f25.F.ev ok f25.g rfl rfl rfl rfl rfl rfl (Evs.co rfl (Ev.ce rfl rfl rfl h8 rfl (Evs.co rfl (Ev.ce rfl rfl rfl h9 rfl (Evs.co rfl (Ev.bi (Ev.ca rfl rfl (Ev.bui ok rfl rfl rfl rfl B.len'.1 B.len'.2 rfl (Evs.co rfl (Ev.ce rfl rfl rfl h8 rfl (Evs.ni ⟨.bui,Cl.lenL (by refine rP (am _) (rP (bR _) (rP ai ?_)); exact nD n4 rfl) (Ev.cn 1 (Bin.subI (Evs.ni ?_)))⟩)))))))))))))))))
 refine rP (am _) (rP (bR _) (rP (show ((cs.length:Int) - 1)=((cs.length - 1:Nat):Int) by lia) ?_))
 refine w25 ok B (hA.le (by decide)) f25.F (bC cs) (List.range cs.length) _ (fun A=>Row.rng (by exact nD n4 rfl)) (cs.length - 1) E (by refine rP (bR _) ?_; exact nD n4 rfl) (by refine rP aM ?_; exact nD n4 rfl) (by refine rP (bR _) ?_; exact Nat.sub_lt_self (by decide) n1) (fun j hj=>by refine rP (bR _) ?_; exact List.mem_range.mp hj) (fun x hx=>?_) ?_ ?_
 ·refine rP hd0 (rP (show (lastT cs:Int)+1+(x:Int)=((lastT cs+1+x:Nat):Int) by rfl) (rP (bz _) ?_))
  exact be (H.on x hx)
 ·refine rP hd0 (rP (show (lastT cs:Int)+1+(E:Int)=((lastT cs+1+E:Nat):Int) by rfl) (rP (bz _) (rP H.off ?_))); rfl
 ·refine rP hd0 ?_
  refine Ev.cn 1 (Bin.addI (Evs.ni ⟨.typ,Cl.rng2 ⟨?_,by refine rP aM (rP ai ?_); exact nD hb rfl,?_,?_⟩⟩))
  ·have:=Row.rng2 (c:=c) (A:=A) (lo:=1) (hi:=(lastT cs:Int)+1+(E:Int)+1) (by decide) (by decide) (by lia) (by lia)
   rw [show ((lastT cs:Int)+1+(E:Int)+1 - 1).toNat=lastT cs+1+E by exact Int.toNat_sub _ _] at this
   exact this
  ·intro acc out I rest j hj C2
   refine Asg.lo rfl rfl .h ⟨rfl,f27.F.ev ok f27.g rfl rfl rfl rfl rfl rfl (Evs.co rfl (Ev.ce rfl rfl rfl (.t (.t (.t h8))) rfl (Evs.co rfl (Ev.lo rfl rfl .h rfl rfl (Evs.ni (w27 ok B (hA.le (by decide)) f27.F (bC cs) _ (by refine rP (bR _) ?_; exact nD n4 rfl) ⟨rfl,.le .ns0 .rest⟩))))))⟩
  ·refine rP (List.filter_eq_self.mpr (fun u_ u_=>rfl)) ?_
   refine ⟨m,led',?_,h⟩
   rw [aG] at u
   exact u
end
end
section
open Sys
section
variable {c:Cst}{A:Around}{led:Led}{Q:D->Led->Prop}{QF:Fl->Led->Prop}{cs:bw}{E:Nat} (R:Nat->RunD c cs E)
theorem lwDue (ok:c.Ok) (B:Bui c) (hA:Aok A 5) (g:eO cs) (f25:Def c t25.1 ⟨⟨[95,108,97,119,95,101,110,100]⟩⟩) (f26:Def c t26.1 ⟨⟨[95,108,97,119,95,100,117,101]⟩⟩) (r:RunD c cs E) (h:Q (.dic (cz cs r.lt r.e).due) led) :
  Cc c A (.ref f26.a) [jx (bC cs),.lst ((List.range cs.length).map r.rk)] led Q:=by
 have e:(List.range cs.length).map r.rk=(List.range (cz cs r.lt r.e).n).map r.rk:=by exact rP gj rfl
 refine rP e ?_
 exact w26 ok B (hA.le (by decide)) f26.F f25.F f25.g (cz cs r.lt r.e) r.way.fin.good r.rk (fun A led Q j i hj hi hu q=>r.hle A led Q j i (by rw [gj] at hj; exact hj) (by rw [gj] at hi; exact hi) hu q) (fun A led Q j i hj hi hu q=>r.hlt A led Q j i (by rw [gj] at hj; exact hj) (by rw [gj] at hi; exact hi) hu q) h
theorem lwLast (ok:c.Ok) (B:Bui c) (hA:Aok A 6) (f:Fra) (g:eO cs) (f14:Def c t14.1 ⟨⟨[99,111,117,110,116,95,99,97,108,108,115]⟩⟩) (f25:Def c t25.1 ⟨⟨[95,108,97,119,95,101,110,100]⟩⟩) (f26:Def c t26.1 ⟨⟨[95,108,97,119,95,100,117,101]⟩⟩)
  (lb:List (Str×D)->Led) (U:∀ m m',Up (lb m) f.e.locals (.ns m) (.ns m') (lb m')) (h8:∀ m,At (lb m) f.a8 (.cell (some (jx (bC cs))))) (m:List (Str×D)) (hr:m.lookup nRuns=some (.lst ((List.range 3).map fun i=>(R i).d))) (hk:m.lookup oU=some (.lst ((List.range 3).map fun i=>.lst ((List.range cs.length).map (R i).rk))))
  (hd:m.lookup fk=some (.lst (((List.range (lastT cs+1+E)).map fun j:Nat=>cV (bC cs) (1+(j:Int))).map .int))) (h:∀ m,QF .next (lb m)):Ex c A f.e (lwS 19) (lb m) QF:=by
 have n4:=g.n4
 refine Ex.forO (ds:=(List.range 3).map fun i:Nat=>.int (i:Int)) hA.hh (fun u_=>rfl) (Ev.ca rfl rfl (Ev.bui ok rfl rfl rfl rfl B.range'.1 B.range'.2 rfl (Evs.co rfl (Ev.cn 3 (Evs.ni ⟨.typ,Cl.rng1 ⟨.rng (by decide),fun ds l=>∃ is m,ds=is.map (fun i:Nat=>D.int (i:Int))/\(∀ i∈is,i<3)/\l=lb m/\m.lookup nRuns=some (.lst ((List.range 3).map fun i=>(R i).d))/\m.lookup oU=some (.lst ((List.range 3).map fun i=>.lst ((List.range cs.length).map (R i).rk)))/\m.lookup fk=some (.lst (((List.range (lastT cs+1+E)).map fun j:Nat=>cV (bC cs) (1+(j:Int))).map .int)),⟨List.range 3,m,rfl,fun i hi=>List.mem_range.mp hi,rfl,hr,hk,hd⟩,?_,fun l ⟨is,m,_,_,e,_⟩=>e ▸ h m⟩⟩)))))
 clear hr hk hd h m
 intro d rest l I ⟨is,m,e,hi,el,hr,hk,hd⟩
 subst el
 induction is using List.casesOn with
 | nil=>exact cN' e
 | cons i is=>
  obtain ⟨rfl,rfl⟩:=List.cons.inj e
  have i3:=hi i (.head _)
  refine Asg.lo rfl rfl (.t (U _ _)) ?_
  generalize hm2:(⟨⟨[107]⟩⟩,D.int (i:Int))::m=m2
  have lk:m2.lookup ⟨⟨[107]⟩⟩=some (.int (i:Int)):=by subst hm2; rfl
  have hr2:m2.lookup nRuns=some (.lst ((List.range 3).map fun i=>(R i).d)):=by subst hm2; exact hr
  have hk2:m2.lookup oU=some (.lst ((List.range 3).map fun i=>.lst ((List.range cs.length).map (R i).rk))):=by subst hm2; exact hk
  have hd2:m2.lookup fk=some (.lst (((List.range (lastT cs+1+E)).map fun j:Nat=>cV (bC cs) (1+(j:Int))).map .int)):=by subst hm2; exact hd
  clear hm2 hr hk hd e
  refine Exs.co (Ex.ite (Tst.cmp rfl (Ev.sub (Ev.lo rfl rfl (.t (U _ []).at) hr2 rfl (Ev.lo rfl rfl (.t (U _ []).at) lk rfl (Sub.nth (j:=i) rfl (fun u_ u_=>rfl) (by decide) i3 (Ev.tup (Evs.co rfl (f26.F.ev ok f26.g rfl rfl rfl rfl rfl rfl (Evs.co rfl (Ev.ce rfl rfl rfl (.t (h8 _)) rfl (Evs.co rfl (Ev.sub (Ev.lo rfl rfl (.t (U _ []).at) hk2 rfl (Ev.lo rfl rfl (.t (U _ []).at) lk rfl (Sub.nth (j:=i) rfl (fun u_ u_=>rfl) (by decide) i3 (Evs.ni ?_)))))))))))))))))
  refine lwDue ok B (hA.le (by decide)) g f25 f26 (R i) (Evs.co rfl (Ev.lo rfl rfl (.t (U _ []).at) hd2 rfl (Evs.ni ⟨by refine rP ai ?_; exact (by decide:2<=16777216),?_⟩)))
  refine Cmp.neT 4 (.cons (R i).way.fin.same (.cons ?_ .nil)) (by have:=hA.hu; unfold cLine; exact nD (aB (aB (aQ (nR this) (aC _)))) rfl) ⟨_,rfl,?_⟩
  ·refine rP ((R i).way.lf) ?_; exact mq _
  refine ifF (by decide) ?_
  refine Exs.ni (Exs.co (Ex.ite (Tst.cmp rfl (Ev.compO (xs:=(R i).b) (g:=fun p=>p.2.d) (p:=fun u_=>false) (f:=fun p=>p.2.d) hA.hh rfl rfl (by decide) (fun u_=>rfl) ?_))))
  refine Ev.meth rfl rfl rfl rfl (Ev.sub (Ev.sub (Ev.lo rfl rfl (.t (U _ []).at) hr2 rfl (Ev.lo rfl rfl (.t (U _ []).at) lk rfl (Sub.nth (j:=i) rfl (fun u_ u_=>rfl) (by decide) i3 (Ev.cn 0 (Sub.tup (fun u_ u_=>rfl) ?s2 ?a2 ?a3 rfl (Mth.dic slot_dict_values rfl (Evs.ni ⟨.bui,Cl.values ⟨?r1,?r2,?r3,?r4⟩⟩)))))))))
  case s2=>refine rP ai ?_; exact (by decide:2<=16777216)
  case a2=>exact (by decide:-(2:Int)<=0)
  case a3=>exact (by decide:(0:Int)<2)
  case r1=>
   have:(cr (R i).b).map (fun p=>p.2)=(R i).b.map fun p=>p.2.d:=by unfold cr; refine rP aG ?_; rfl
   intro led Q k
   refine Itr.vws fun I=>?_
   refine rP this ?_; exact k I
  case r2=>have:=(R i).way.fin.len; refine rP ai ?_; exact nD this rfl
  case r3=>
   intro acc out I2 rest2 p hp C2
   refine Asg.lo rfl rfl .h (Tst.cmp rfl (f14.F.ev ok f14.g rfl rfl rfl rfl rfl rfl (Evs.co rfl (Ev.sub (Ev.lo rfl rfl .h rfl rfl (Ev.cn 4 (Sub.tup (fun u_ u_=>rfl) ?s2 ?a2 ?a3 rfl (Evs.ni ?_))))))))
   case s2=>refine rP ai ?_; exact (by decide:5<=16777216)
   case a2=>exact (by decide:-(5:Int)<=4)
   case a3=>exact (by decide:(4:Int)<5)
   refine w14 ok (hA.le (by decide)) f14.F (iD p.2.by') (p.2.by'.map (·.2)) (by unfold iD; refine rP aG (rP aG ?_); rfl) ?_
   refine Ev.sub (Ev.lo rfl rfl .h rfl rfl (Ev.cn 2 (Sub.tup (fun u_ u_=>rfl) ?s2 ?a2 ?a3 rfl (Cmp.neI ⟨_,rfl,?_⟩))))
   case s2=>refine rP ai ?_; exact (by decide:5<=16777216)
   case a2=>exact (by decide:-(5:Int)<=2)
   case a3=>exact (by decide:(2:Int)<5)
   refine rP ((R i).way.fin.cnt p hp) (rP (bne_self_eq_false _) ?_)
   exact ⟨rfl,.le .ns0 .rest⟩
  case r4=>
   refine rP (List.filter_eq_nil_iff.mpr (fun u_ u_=>by decide)) ?_
   refine Ev.lst (Evs.ni ⟨by rw [ai]; decide,Cmp.ne0 (by have:=hA.hu; unfold cLine; lia) ⟨_,rfl,?_⟩⟩)
   refine ifF (by decide) ?_
   exact Exs.ni (Exs.ni ⟨_,.h,is,m2,rfl,fun j hj=>hi j (.tail _ hj),rfl,hr2,hk2,hd2⟩)
end
end
section
open Sys
noncomputable def dS (t:Nat):List Int:=((t % 4:Nat):Int)::[4,24,144].map fun s:Nat=>rowv (t / s % 6)
noncomputable def oW (row:List Int):Bool:=
 let cm:=bK (dE row)
 decide (1<=cm.length) && decide (cm.length<=4) && (cm.all fun x=>decide (0<=x) && decide (x<=20)) && ((List.range 4).all fun j=>(List.range 4).all fun k=>!(decide (j<=k) && decide (k<cm.length)) || decide (cm.getD j 0<=cm.getD k 0)) && ((dE row).all fun ns=>decide (ns.length<=4))
theorem row_all:∀ (a:Fin 4) (b c d:Fin 6),oW [((a.val:Nat):Int),rowv b,rowv c,rowv d]=true:=by decide +kernel
structure ComsOk (row:List Int) (cn:List Nat):Prop where
 e:bK (dE row)=cn.map fun x:Nat=>(x:Int)
 n1:1<=cn.length
 n4:cn.length<=4
 top:∀ k,cn.getD k 0<=20
 srt:∀ j k,j<=k->k<cn.length->cn.getD j 0<=cn.getD k 0
 t4:∀ ns,dE row=some ns->ns.length<=100
theorem coms_ok (t:Nat):∃ cn,ComsOk (dS t) cn:=by
 have h:=row_all ⟨t % 4,Nat.mod_lt _ (by decide)⟩ ⟨t / 4 % 6,Nat.mod_lt _ (by decide)⟩ ⟨t / 24 % 6,Nat.mod_lt _ (by decide)⟩ ⟨t / 144 % 6,Nat.mod_lt _ (by decide)⟩
 replace h:oW (dS t)=true:=h
 generalize dS t=row at h
 unfold oW at h
 simp only [Bool.and_eq_true,decide_eq_true_eq,List.all_eq_true,List.mem_range] at h
 obtain ⟨⟨⟨⟨h1,h2⟩,h3⟩,h4⟩,h5⟩:=h
 have e:bK (dE row)=((bK (dE row)).map Int.toNat).map fun x:Nat=>(x:Int):=by
  refine rP aG ?_
  have e2:(bK (dE row)).map ((fun x:Nat=>(x:Int))∘Int.toNat)=(bK (dE row)).map id:=aP fun x hx=>by
   have:=(h3 x hx).1
   refine (?_:((x.toNat:Nat):Int)=x)
   exact Int.toNat_of_nonneg this
  exact rP e2 (rP (List.map_id _) rfl)
 refine ⟨(bK (dE row)).map Int.toNat,e,by refine rP (am _) ?_; exact h1,by refine rP (am _) ?_; exact h2,fun k=>?_,fun j k hjk hk=>?_,fun ns hn=>?_⟩
 ·refine rP aF (rP aK ?_)
  cases q:(bK (dE row))[k]? with
  | none=>exact aO _
  | some x=>
   have:=h3 x (ay q)
   refine (?_:x.toNat<=20)
   lia
 ·rw [am] at hk
  have:=h4 j (by exact nT (nT (aB hjk) hk) h2) k (by exact nT hk h2)
  simp only [Bool.or_eq_true,Bool.not_eq_true',Bool.and_eq_false_iff,decide_eq_false_iff_not,decide_eq_true_eq] at this
  have g1:=gm ((bK (dE row)).map Int.toNat) j
  have g2:=gm ((bK (dE row)).map Int.toNat) k
  rw [<- e] at g1 g2
  lia
 ·rw [hn] at h5
  have:ns.length<=4:=by simpa using h5
  exact nD this rfl
theorem csOk_of {row:List Int}{cn:List Nat} (h:ComsOk row cn) (T:Nat->Nat):eO (csOf T cn):=by
 have l:=csOf_len T cn
 have at':∀ k,k<cn.length->(csOf T cn).getD k (0,⟨0,0,0⟩)=(cn.getD k 0,woN (T (k+1)) (gch k)):=fun k hk=>by
  refine rP aF ?_
  unfold csOf
  refine rP aK (rP (List.getElem?_range hk) ?_); rfl
 have w:=fun k=>woN_n (T (k+1)) (gch k)
 refine ⟨by refine rP l ?_; exact h.n1,by refine rP l ?_; exact h.n4,fun j k hjk hk=>?_,fun k hk=>?_,fun k hk=>?_,fun k hk=>?_⟩ <;> rw [l] at hk
 ·unfold cm; refine rP (at' j (by exact nT (aB hjk) hk)) (rP (at' k hk) ?_); exact h.srt j k hjk hk
 ·unfold wd; refine rP (at' k hk) ?_; exact (w k).2.2.2
 ·unfold wd; refine rP (at' k hk) ?_; exact ⟨(w k).1,(w k).2.1,(w k).2.2.1⟩
 ·unfold cm; refine rP (at' k hk) ?_; exact h.top k
theorem way_b (j:Nat) (h:j<4):way j≠0/\-10<=way j/\way j<=10:=by
 have:∀ j:Fin 4,way j≠0/\-10<=way j/\way j<=10:=by decide
 exact this ⟨j,h⟩
noncomputable def dh (key i:Nat):Int:=way (key / [2,8,32].getD i 0 % 4)
theorem iZ (key i:Nat):dh key i≠0/\-10<=dh key i/\dh key i<=10:=way_b _ (Nat.mod_lt _ (by decide))
theorem gp (col key:Nat):KsOk (cK col (dh key)):=⟨fun k hk=>by
 simp only [cK,List.mem_cons,List.not_mem_nil,or_false] at hk
 rcases hk with rfl | rfl | rfl
 ·exact (iZ key 0).1
 ·exact (iZ key 1).1
 ·exact (iZ key 2).1,⟨_,.tail _ (.tail _ (.head _))⟩⟩
section
variable {c:Cst}{cs:bw}{E:Nat} (g:eO cs) (H:Hrs cs E)
theorem oX {p q:Prop} [Decidable p] [Decidable q] (h:p↔¬ q):decide p = !decide q:=by
 by_cases x:q
 ·refine rP (be x) (rP (bf (fun y=>h.mp y x)) ?_); rfl
 ·refine rP (bf x) (rP (be (h.mpr x)) ?_); rfl
noncomputable def runL {e:Nat->Nat} (En:(cE cs).End e):RunD c cs E:=⟨fun j k=>decide (j<k),e,_,_,fun k=>.int (k:Int),oQ g H (okL g) En (du g En _).lf (du g En _).b,
 fun A led Q j i u_ u_ u_ q=>Cmp.leI (by refine rP (oX (q:=i<j) (by omega)) ?_; exact q),fun A led Q j i u_ u_ u_ q=>Cmp.ltI (by rw [decide_eq_decide.mpr (show (j:Int)<(i:Int)↔j<i by exact Int.ofNat_le)]; exact q)⟩
noncomputable def runP {e:Nat->Nat} (En:(cC cs).End e):RunD c cs E:=⟨fun j k=>decide (k<j),e,_,_,fun k=>.int (-(k:Int)),oQ g H (okP g) En (dv g En _).lf (dv g En _).b,
 fun A led Q j i u_ u_ u_ q=>Cmp.leI (by refine rP (oX (q:=j<i) (by omega)) ?_; exact q),fun A led Q j i u_ u_ u_ q=>Cmp.ltI (by rw [decide_eq_decide.mpr (show -(j:Int) < -(i:Int)↔i<j by lia)]; exact q)⟩
noncomputable def runB {col key:Nat} (hcol:col<2){e:Nat->Nat} (En:(cU cs (cK col (dh key))).End e):RunD c cs E:=⟨_,e,_,_,fun k=>.tup ((rk2 cs col (dh key) k).map .int),oQ g H (okB g (gp col key)) En (cy g (gp col key) En _).lf (cy g (gp col key) En _).b,
 fun A led Q j i u_ u_ hu q=>by refine rP (lA cs hcol _ _) (rP (lA cs hcol _ _) ?_); refine Cmp.leT (by rw [cj,cj]) hu ?_; have:=jG (l:=rkB cs (cK col (dh key)) j) (m:=rkB cs (cK col (dh key)) i) (by rw [cj,cj]); rw [oC] at this; refine rP this ?_; exact q,
 fun A led Q j i u_ u_ hu q=>by refine rP (lA cs hcol _ _) (rP (lA cs hcol _ _) ?_); exact Cmp.ltT (by rw [cj,cj]) hu q⟩
noncomputable def oY {col key:Nat} (hcol:col<2){e1 e2 e3:Nat->Nat} (E1:(cE cs).End e1) (E2:(cC cs).End e2) (E3:(cU cs (cK col (dh key))).End e3) (i:Nat):RunD c cs E:=
 if i=0 then runL g H E1 else if i=1 then runP g H E2 else runB g H hcol E3
end
end
section
open Sys
structure Lw (c:Cst) where
 L:Lx c
 P:Ac c
 T:Tc c
 N:Nt c
 f14:Def c t14.1 ⟨⟨[99,111,117,110,116,95,99,97,108,108,115]⟩⟩
 f17:Def c t17.1 ⟨⟨[95,108,97,119,95,119,111,114,100]⟩⟩
 f19:Def c t19.1 ⟨⟨[95,108,97,119,95,116,111,108,100]⟩⟩
 f20:Def c t20.1 ⟨⟨[95,108,97,119,95,99,111,109,105,110,103,115]⟩⟩
 f22:Def c t22.1 ⟨⟨[95,108,97,119,95,108,105,110,101]⟩⟩
 f23:Def c t23.1 ⟨⟨[95,108,97,119,95,112,105,108,101]⟩⟩
 f24:Def c t24.1 ⟨⟨[95,108,97,119,95,98,101,110,99,104]⟩⟩
 f25:Def c t25.1 ⟨⟨[95,108,97,119,95,101,110,100]⟩⟩
 f26:Def c t26.1 ⟨⟨[95,108,97,119,95,100,117,101]⟩⟩
 f27:Def c t27.1 ⟨⟨[95,108,97,119,95,108,101,102,116]⟩⟩
noncomputable def lwL (f:Fra) (d9 d8 d7 d6 d5 d4 d3 d2 d1:Ch) (m:List (Str×D)) (led:Led):Led:=
 (f.a9,d9)::(f.a8,d8)::(f.a7,d7)::(f.a6,d6)::(f.a5,d5)::(f.a4,d4)::(f.a3,d3)::(f.a2,d2)::(f.a1,d1)::(f.C,.ns m)::led
section
variable {f:Fra}{d9 d8 d7 d6 d5 d4 d3 d2 d1:Ch}{m:List (Str×D)}{led:Led}
theorem lwL.ns (m':List (Str×D)):Up (lwL f d9 d8 d7 d6 d5 d4 d3 d2 d1 m led) f.e.locals (.ns m) (.ns m') (lwL f d9 d8 d7 d6 d5 d4 d3 d2 d1 m' led):=.t (.t (.t (.t (.t (.t (.t (.t (.t .h))))))))
theorem lwL.u2 {x:Ch}:Up (lwL f d9 d8 d7 d6 d5 d4 d3 d2 d1 m led) f.a2 d2 x (lwL f d9 d8 d7 d6 d5 d4 d3 x d1 m led):=.t (.t (.t (.t (.t (.t (.t .h))))))
theorem lwL.u3 {x:Ch}:Up (lwL f d9 d8 d7 d6 d5 d4 d3 d2 d1 m led) f.a3 d3 x (lwL f d9 d8 d7 d6 d5 d4 x d2 d1 m led):=.t (.t (.t (.t (.t (.t .h)))))
theorem lwL.u4 {x:Ch}:Up (lwL f d9 d8 d7 d6 d5 d4 d3 d2 d1 m led) f.a4 d4 x (lwL f d9 d8 d7 d6 d5 x d3 d2 d1 m led):=.t (.t (.t (.t (.t .h))))
theorem lwL.u5 {x:Ch}:Up (lwL f d9 d8 d7 d6 d5 d4 d3 d2 d1 m led) f.a5 d5 x (lwL f d9 d8 d7 d6 x d4 d3 d2 d1 m led):=.t (.t (.t (.t .h)))
theorem lwL.u6 {x:Ch}:Up (lwL f d9 d8 d7 d6 d5 d4 d3 d2 d1 m led) f.a6 d6 x (lwL f d9 d8 d7 x d5 d4 d3 d2 d1 m led):=.t (.t (.t .h))
theorem lwL.u7 {x:Ch}:Up (lwL f d9 d8 d7 d6 d5 d4 d3 d2 d1 m led) f.a7 d7 x (lwL f d9 d8 x d6 d5 d4 d3 d2 d1 m led):=.t (.t .h)
theorem lwL.u8 {x:Ch}:Up (lwL f d9 d8 d7 d6 d5 d4 d3 d2 d1 m led) f.a8 d8 x (lwL f d9 x d7 d6 d5 d4 d3 d2 d1 m led):=.t .h
theorem lwL.u9 {x:Ch}:Up (lwL f d9 d8 d7 d6 d5 d4 d3 d2 d1 m led) f.a9 d9 x (lwL f x d8 d7 d6 d5 d4 d3 d2 d1 m led):=.h
theorem lwL.a2:At (lwL f d9 d8 d7 d6 d5 d4 d3 d2 d1 m led) f.a2 d2:=(lwL.u2 (x:=d2)).at
theorem lwL.a3:At (lwL f d9 d8 d7 d6 d5 d4 d3 d2 d1 m led) f.a3 d3:=(lwL.u3 (x:=d3)).at
theorem lwL.a4:At (lwL f d9 d8 d7 d6 d5 d4 d3 d2 d1 m led) f.a4 d4:=(lwL.u4 (x:=d4)).at
theorem lwL.a5:At (lwL f d9 d8 d7 d6 d5 d4 d3 d2 d1 m led) f.a5 d5:=(lwL.u5 (x:=d5)).at
theorem lwL.a6:At (lwL f d9 d8 d7 d6 d5 d4 d3 d2 d1 m led) f.a6 d6:=(lwL.u6 (x:=d6)).at
theorem lwL.a7:At (lwL f d9 d8 d7 d6 d5 d4 d3 d2 d1 m led) f.a7 d7:=(lwL.u7 (x:=d7)).at
theorem lwL.a8:At (lwL f d9 d8 d7 d6 d5 d4 d3 d2 d1 m led) f.a8 d8:=(lwL.u8 (x:=d8)).at
theorem lwL.a9:At (lwL f d9 d8 d7 d6 d5 d4 d3 d2 d1 m led) f.a9 d9:=(lwL.u9 (x:=d9)).at
theorem lwL.a1:At (lwL f d9 d8 d7 d6 d5 d4 d3 d2 d1 m led) f.a1 d1:=.t (.t (.t (.t (.t (.t (.t (.t .h)))))))
theorem lwL.at' {a:Addr}{x:Ch} (h:At led a x):At (lwL f d9 d8 d7 d6 d5 d4 d3 d2 d1 m led) a x:=.t (.t (.t (.t (.t (.t (.t (.t (.t (.t h)))))))))
theorem lwL.off:Weak (lwL f d9 d8 d7 d6 d5 d4 d3 d2 d1 m led) led:=.drop (.drop (.drop (.drop (.drop (.drop (.drop (.drop (.drop (.drop .rest)))))))))
end
section
variable {c:Cst}{A:Around}{led:Led}{Q:D->Led->Prop}
theorem lwTail (ok:c.Ok) (B:Bui c) (hA:Aok A 14) (f:Fra) (W:Lw c){cs:bw} (g:eO cs){col key:Nat} (hcol:col<2){d6 d7 d3 d2 d1:Ch} (m:List (Str×D)) (hc:m.lookup dM=some (kl cs)) (hT:At led W.L.T W.L.tab) (hP:At led W.P.T .tabG) (h:Q (.bool true) led) :
  Exs c A f.e (t28.1.body.drop 12) (lwL f (.cell none) (.cell none) d7 d6 (.cell (some (.lst [.int (dh key 0),.int (dh key 1),.int (dh key 2)]))) (.cell (some (.int (col:Int)))) d3 d2 d1 m led) (bS Q led):=by
 obtain ⟨E,H⟩:=ex_hrs g
 obtain ⟨e1,E1⟩:=nI (okL g)
 obtain ⟨e2,E2⟩:=nI (okP g)
 obtain ⟨e3,E3⟩:=nI (okB g (gp col key))
 have n4:=g.n4
 refine Exs.co (Ex.asg rfl (lwDays ok B (hA.le (by decide)) f cs (by exact nD n4 rfl) (fun p hp=>Nat.le_trans (com20 g p hp) (by decide)) (lwL.ns []).at hc (Asg.cel rfl rfl rfl lwL.u8 rfl ?_)))
 refine Exs.co (Ex.asg rfl (lwMany ok B (hA.le (by decide)) f (bC cs) (by refine rP (bR _) ?_; exact nD n4 rfl) lwL.a8 (Asg.cel rfl rfl rfl lwL.u9 rfl ?_)))
 refine rP (bR _) ?_
 refine Exs.co (Ex.asg rfl (lwRuns ok B (hA.le (by decide)) f W.L W.P W.T W.N W.f22 W.f23 W.f24 g H hcol (dh key) (gp col key) (lwL.ns []).at hc lwL.a4 lwL.a5 (lwL.at' hT) (lwL.at' hP) E1 E2 E3 (Asg.lo rfl rfl (lwL.ns _) ?_)))
 refine Exs.co (lwStays (oY g H hcol E1 E2 E3) ok B (hA.le (by decide)) f g (lwL.ns _) rfl lwL.a8 lwL.a9 ?_)
 refine Exs.co (lwStayIf (oY g H hcol E1 E2 E3) ok B hA.hh f (lwL.ns []).at rfl rfl E1 ?_)
 refine Exs.co (Ex.asg rfl (lwRanks hA.hh f (by exact nD n4 rfl) col hcol (dh key) (fun i=>(iZ key i).2) lwL.a4 lwL.a5 lwL.a8 lwL.a9 (Asg.lo rfl rfl (lwL.ns _) ?_)))
 refine Exs.co (oV ok B (hA.le (by decide)) f g H W.f25 W.f27 (lwL.ns _) lwL.a8 lwL.a9 ?_)
 refine Exs.co (lwLast (oY g H hcol E1 E2 E3) ok B (hA.le (by decide)) f g W.f14 W.f25 W.f26 (fun m=>lwL f _ _ _ _ _ _ _ _ _ m led) (fun m m'=>lwL.ns m') (fun m=>lwL.a8) _ rfl rfl rfl fun m=>?_)
 exact Exs.co (Ex.ret (Ev.cbool ⟨_,lwL.off,h⟩))
noncomputable abbrev kz (T:Nat->Nat):Ch:=.cell (some (.lst ((List.range 4).map fun k=>gC (T (k+1)) (gch k))))
noncomputable abbrev oZ (key:Nat):Ch:=.cell (some (.lst [.int (dh key 0),.int (dh key 1),.int (dh key 2)]))
noncomputable abbrev chCol (col:Nat):Ch:=.cell (some (.int (col:Int)))
noncomputable def mLoop (Kl dx K:Addr) (row:D):List (Str×D):=[(kn,.str ⟨⟨[]⟩⟩),(dM,.ref K),(nGate,.obj (instObj Kl dx)),(mA,row)]
theorem lwMid (ok:c.Ok) (B:Bui c) (hA:Aok A 14) (f:Fra) (W:Lw c) (T:Nat->Nat) (hT:At led W.L.T W.L.tab) (hP:At led W.P.T .tabG){d3 d2 d1:Ch}
  (h18:∀ (led:Led) (m:List (Str×D)) (Q':D->Led->Prop),At led f.e.locals (.ns m)->m.lookup mA=some (.lst ((dS (T 0)).map .int))->Q' (jy (dE (dS (T 0)))) led->Ev c A f.e lwSz led Q') (h:Q (.bool true) led) :
  Exs c A f.e (t28.1.body.drop 6) (lwL f (.cell none) (.cell none) (.cell none) (kz T) (oZ (T 0 / 864)) (chCol (T 0 / 864 % 2)) d3 d2 d1 [(mA,.lst ((dS (T 0)).map .int))] led) (bS Q led):=by
 refine Exs.co (Ex.asg rfl (lwGate ok B (hA.le (by decide)) f W.L T lwL.a6 (lwL.at' hT) fun fr Bc S P2 dy P dx hr=>Asg.lo rfl rfl (.t (.t (.t (.t (.t (.t (lwL.ns _))))))) ?_))
 refine Exs.co (Ex.asg rfl (Ev.lstM (Evs.ni ⟨by rw [ai]; decide,fun K=>Asg.lo rfl rfl (.t (.t (.t (.t (.t (.t (.t (lwL.ns _)))))))) ?_⟩)))
 refine Exs.co (Ex.asg rfl (Ev.cstr (Asg.lo rfl rfl (.t (.t (.t (.t (.t (.t (.t (lwL.ns _)))))))) ?_)))
 obtain ⟨cn,O⟩:=coms_ok (T 0)
 have el:(bK (dE (dS (T 0)))).length=cn.length:=by exact rP O.e (rP (am _) rfl)
 refine Exs.co (lwFor (P:=P) (dx:=dx) (P2:=P2) (dy:=dy) (S:=S) (Bc:=Bc) (K:=K) (fr:=fr) ok B (hA.le (by decide)) f W.L W.f20 T (.lst ((dS (T 0)).map .int)) (dE (dS (T 0))) O.t4 (by refine rP el ?_; exact O.n4) hr (fun m=>lwL f (.cell none) (.cell none) (.cell none) (kz T) (oZ (T 0 / 864)) (chCol (T 0 / 864 % 2)) d3 d2 d1 m led) (fun m m'=>lwL.ns m') (fun m=>lwL.a6) (mLoop W.L.Kl dx K (.lst ((dS (T 0)).map .int))) ⟨rfl,rfl,rfl,rfl⟩ (fun Q' q=>h18 _ (mLoop W.L.Kl dx K (.lst ((dS (T 0)).map .int))) Q' (.t (.t (.t (.t (.t (.t (.t (lwL.ns []).at))))))) rfl q) fun m n sg bh G=>?_)
 refine Exs.weak (.cons .h (.drop (.drop (.drop (.drop (.drop (.drop .rest))))))) ?_
 refine Exs.co (Ex.asg rfl (oO ok B (hA.le (by decide)) f W.f19 W.f20 (dS (T 0)) rfl O.t4 (.t (lwL.ns []).at) G.r (Asg.cel rfl rfl rfl (.t lwL.u7) rfl ?_)))
 refine rP O.e ?_
 have e4:(cn.map fun x:Nat=>(x:Int)).length=cn.length:=am _
 have ch:=lwCheck (QF:=fun g led₁=>match g with | .next=>Exs c A f.e (t28.1.body.drop 12) led₁ (bS Q led) | g=>bS Q led g led₁) ok B (hA.le (by decide)) f T (cn.map fun x:Nat=>(x:Int)) (K:=K) (by refine rP e4 ?_; exact O.n4) (fun m=>lwL f (.cell none) (.cell none) (.cell (some (.lst ((cn.map fun x:Nat=>(x:Int)).map .int)))) (kz T) (oZ (T 0 / 864)) (chCol (T 0 / 864 % 2)) d3 d2 d1 m led) (fun m m'=>lwL.ns m') (fun m=>lwL.a6) (fun m=>lwL.a7) m G.c
 rw [e4] at ch
 have el2:(bK (dE (dS (T 0)))).length=cn.length:=el
 rw [O.e,e4] at *
 refine Exs.co (ch ?_)
 refine rQ (oN T cn) ?_
 exact lwTail ok B hA f W (csOk_of O T) (key:=T 0 / 864) (Nat.mod_lt _ (by decide)) _ rfl hT hP h
theorem lwBody (ok:c.Ok) (B:Bui c) (hA:Aok A 14) (f:Fra) (W:Lw c) (script:List Int) (hz:script.length<=100) (hT:At led W.L.T W.L.tab) (hP:At led W.P.T .tabG)
  (h18:∀ (led:Led) (m:List (Str×D)) (Q':D->Led->Prop),At led f.e.locals (.ns m)->m.lookup mA=some (.lst ((dS (tot script 0)).map .int))->Q' (jy (dE (dS (tot script 0)))) led->Ev c A f.e lwSz led Q') (h:Q (.bool true) led) :
  Exs c A f.e t28.1.body (lwL f (.cell none) (.cell none) (.cell none) (.cell none) (.cell none) (.cell none) (.cell none) (.cell none) (.cell (some (.lst (script.map .int)))) [] led) (bS Q led):=by
 refine Exs.co (Ex.asg rfl (lwTotals ok B hA.hh f script hz lwL.a1 (Asg.cel rfl rfl rfl lwL.u2 rfl ?_)))
 generalize tot script=T at h18
 refine Exs.co (Ex.asg rfl (lwKey f T lwL.a2 (Asg.cel rfl rfl rfl lwL.u3 rfl ?_)))
 refine Exs.co (Ex.asg rfl (lwColumn f (T 0 / 864) lwL.a3 (Asg.cel rfl rfl rfl lwL.u4 rfl ?_)))
 refine Exs.co (Ex.asg rfl (lwWays hA.hh f (T 0 / 864) lwL.a3 (Asg.cel rfl rfl rfl lwL.u5 rfl ?_)))
 refine Exs.co (Ex.asg rfl (lwRow hA.hh f T lwL.a2 (Asg.lo rfl rfl (lwL.ns _) ?_)))
 refine Exs.co (Ex.asg rfl (lwDrawn ok B (hA.le (by decide)) f W.f17.F W.f17.g T lwL.a2 (Asg.cel rfl rfl rfl lwL.u6 rfl ?_)))
 exact lwMid ok B hA f W T hT hP h18 h
end
end
section
noncomputable abbrev sSz:Str:=⟨⟨[95,108,97,119,95,115,105,122,101,115]⟩⟩
section
variable {c:Cst}{A:Around}{Z:HP}{led led':Led}{s:Shared}{Q:D->Led->Prop}{outer:List Env}
structure Gn (c:Cst) where
 cm:∃ t,c.mg sCM=some (.int 127 t)
 bv:c.mg sVE=none/\c.mb sVE=some (.type "ValueError")
 f6:Def c t06.1 sGrI
 f18:Def c t18.1 sSz
theorem szTry (hc:c.gf=none) (ok:c.Ok) (B:Bui c) (G:Gn c) (hh:A.handled=none) (hroom:A.in1.depth<recursionLimit) (hroom0:A.depth<recursionLimit){fd:FuncData}{a S:Addr}{m:List (Str×D)}{row:List Int}{QF:Fl->Led->Prop}
  (hfr:A.frames=some (fE fd t18.1 a S []::outer)) (F:Frs led outer) (hm:At led S (.ns m)) (hx:m.lookup mA=some (.lst ((0::row).map .int))) (h:QF (.ret .none) led):Ex c A (fE fd t18.1 a S []) (t18.1.body.getD 0 (.Pass ⟨0,0,0,0⟩)) led QF:=fun Z s r=>by
 refine wpAny_Try_except (wpAny_execs_cons (wpAny_Return_some (ac (szBad hc ok B hh hroom hroom0 G.cm G.bv G.f6 hfr F hm hx r) (fun u_ u_ f=>f.elim) (fun x s₁ hx=>?_))))
 obtain ⟨e,Z',f,rfl,hz,x1⟩:=hx
 have F2:Frs led (fE fd t18.1 a S []::outer):=Frs.cons (fun q=>by cases q) rfl hm F
 refine oh (env0:=fE fd t18.1 a S []) rfl hfr F2 rfl x1 fun s₂ f₂ x₂=>jo (fr:=none) x₂ fun s₃ x₃=>?_
 refine wpAny_handleBy_builtin (X:="ValueError") (T:="ValueError") (b:=true) excRaise_ValueError.isExc sub_VE3 sub_VE2 ?_
 obtain ⟨T,oe,oT,r4,back⟩:=x₃.put
 refine bD (Ev.bui (A:=A.mark _) (x:=sVE) (Q:=fun d l=>d = .val (.type "ValueError")/\l=(e,.obj oe)::(T,.obj oT)::led) ok rfl rfl rfl rfl G.bv.1 G.bv.2 rfl ⟨rfl,rfl⟩ Z' s₃ r4) fun Z5 led5 s₅ v d h5 r5 a5 q=>?_
 obtain ⟨rfl,rfl⟩:=q
 refine a5.val' ⟨rfl,(back _ _ r5).at',?_⟩
 refine ifT rfl ?_
 refine jo (fr:=none) (back _ _ r5) fun s6 x6=>?_
 have e1:∀ A' p p',Exs c A' (fE fd t18.1 a S []) [.Return (some (.Constant .none 0 p)) p'] led QF:=fun A' p p'=>Exs.co (Ex.ret (Ev.cnone h))
 exact ac (e1 _ _ _ Z5 s6 x6.1) (fun u_ u_ y=>PF.le (hz.trans h5) y) noE.im
theorem codeFnF {a:Addr}{o:Obj}{fd:FuncData}{body:List Stmt}{vs:List Value}{l:List (Str×Value)}{m:List (Str×D)}{n:Nat}{Q:D->Led->Prop} (ok:c.Ok) (hA:Aok A (n+1)) (r:R c Z led s) (ho:s.heap.get? a=some o) (hd:o.data = .func fd)
  (hcd:s.heap.CodeRec fd.code fd.qualname) (hbody:fd.body = .stmts body) (hb:BindsTo s fd ⟨vs,[]⟩ l) (bs:Binds c.w Z l m)
  (hco:fd.scope.isCoroutine=false) (hgen:fd.scope.isGenerator=false)
  (h:∀ C,wCells (bG fd.scope.names) (.cell none) ((C,.ns [])::led) fd.closure fun led' cl'=>Bnd c A.in1 (dA fd a C cl') m led' fun led₁=>Exs c (A.deeper (dA fd a C cl')) (dA fd a C cl') body led₁ (bS Q led)) :
  codeAny c.M A (.call (.ref a) ⟨vs,[]⟩) (fun r s'=>match r with | .ok (.ret v)=>P1 c Z Q v s' | .ok _=>False | .error e=>noE e s') s:=by
 have hroom:A.depth<recursionLimit:=by have:=hA.hd; unfold recursionLimit; exact nD (aB (nR this)) rfl
 refine codeAny_call_function hroom ho hd hco hgen hbody hcd (hb _ _ _ _ ?_)
 refine ac (wpEnv (Q:=fun env s₂=>s₂.heap.NoLimit/\codeAny c.M A (.func body env) (fun r s'=>match r with | .ok (.ret v)=>P1 c Z Q v s' | .ok _=>False | .error e=>noE e s') s₂) r bs fun C=>(h C).imp fun led' cl' k=>?_) (fun u_ u_ y=>y) noE.im
 refine Bnd.imp (fun led₁ ex Z1 s₁ hz r1=>⟨ok.lim.keeps r1.keepH,codeAny_func ?_⟩) _ _ k
 refine ac (ex Z1 s₁ r1) (fun f s₂ q=>?_) noE.im
 obtain ⟨Z₂,led₂,g,h2,r2,a2,led3,wk,q⟩:=q
 have r3:=r2.weak wk
 induction a2 with
 | ret av=>exact ⟨Z₂,led3,_,hz.trans h2,r3,av,q⟩
 | _=>exact ⟨Z₂,led3,_,hz.trans h2,r3,.none,q⟩
theorem FnAt.callF {a:Addr}{t:Txt}{fd:FuncData}{ds:List D}{m:List (Str×D)}{n:Nat} (F:FnAt c a t fd) (ok:c.Ok) (hA:Aok A (n+1)) (hb:∀ Z s vs,R c Z led s->AVs c.w Z vs ds->∃ l,BindsTo s fd ⟨vs,[]⟩ l/\Binds c.w Z l m)
  (hco:t.scope.isCoroutine=false) (hgen:t.scope.isGenerator=false)
  (h:∀ C,wCells (bG t.scope.names) (.cell none) ((C,.ns [])::led) [] fun led' cl'=>Bnd c A.in1 (fE fd t a C cl') m led' fun led₁=>Exs c (A.deeper (fE fd t a C cl')) (fE fd t a C cl') t.body led₁ (bS Q led)):Cc c A (.ref a) ds led Q:=fun Z s g vs r x av=>x.val' <| by
 obtain ⟨o,ho,hd⟩:=F.o
 obtain ⟨l,hb,bs⟩:=hb Z s vs r av
 refine codeFnF ok hA r (r.keepH _ _ ho) hd (F.code.keeps r.keepH) F.bd hb bs (by refine rP F.sc ?_; exact hco) (by refine rP F.sc ?_; exact hgen) ?_
 have e:∀ C cl',dA fd a C cl'=fE fd t a C cl':=fun C cl'=>by
  unfold dA fE
  exact rP F.sc (rP F.gl (rP F.bu rfl))
 refine rP F.sc (rP F.cl ?_)
 intro C
 refine wCells.imp (fun led' cl' k=>?_) (h C)
 refine rP (e _ _) ?_; exact k
theorem w18 (hc:c.gf=none) (ok:c.Ok) (B:Bui c) (G:Gn c) (hA:Aok A 4) (hfr:A.frames=some outer) (F:Frs led outer) (row:List Int) (h4:row.length=4) (h:Q (jy (dE row)) led):Cc c A (.ref G.f18.a) [.lst (row.map .int)] led Q:=by
 refine G.f18.F.callF ok hA (G.f18.F.bind1 (x:=mA) fun v=>fun u_ u_ u_ u_ u_ u_ u_ u_ u_ u_ u_ u_=>rfl) rfl rfl ?_
 intro S
 refine Sto.lo rfl rfl .h ?_
 have hA':=hA.deep (fE G.f18.fd t18.1 G.f18.a S [])
 have d1:(A.deeper (fE G.f18.fd t18.1 G.f18.a S [])).in1.depth<recursionLimit:=by have:=(hA'.le (m:=1) (by decide)).in1.hd; unfold recursionLimit; exact nD (aB (nR this)) rfl
 have d0:(A.deeper (fE G.f18.fd t18.1 G.f18.a S [])).depth<recursionLimit:=by have:=hA'.hd; unfold recursionLimit; exact lenA d1
 by_cases h0:row[0]? = some 0
 ·obtain ⟨x,row',rfl⟩:∃ x row',row=x::row':=by induction row using List.casesOn with | nil=>cases h4 | cons x r=>exact ⟨x,r,rfl⟩
  cases h0
  have e:dE (0::row')=none:=by
   exact l3 (P:=fun r=>dE (0::r)=none) (Nat.succ.inj h4) fun u_ u_ u_=>rfl
  rw [e] at h
  refine Exs.co (szTry (outer:=outer) hc ok B G hA'.hh d1 d0 (Around.frames_deeper hfr) F.up .h rfl ⟨_,.drop .rest,h⟩)
 ·rw [nz h4 h0] at h
  exact Exs.co (Ex.tryOk (Exs.co (Ex.ret (szGood hc ok B hA'.hh d1 d0 G.cm G.f6 .h rfl h4 h0 ⟨by simp,_,.drop .rest,h⟩))))
end
end
section
section
variable {c:Cst}{A:Around}{Z:HP}{led led':Led}{s:Shared}{Q:D->Led->Prop}{outer:List Env}
theorem wlaw (hc:c.gf=none) (ok:c.Ok) (B:Bui c) (W:Lw c) (G:Gn c){a:Addr}{fd:FuncData} (F:FnAt c a t28.1 fd) (hA:Aok A 15) (hfr:A.frames=some []) (script:List Int) (hz:script.length<=100) (hT:At led W.L.T W.L.tab) (hP:At led W.P.T .tabG) (h:Q (.bool true) led):Cc c A (.ref a) [.lst (script.map .int)] led Q:=by
 refine F.callF ok hA (F.bind1 (x:=nY) fun v=>fun u_ u_ u_ u_ u_ u_ u_ u_ u_ u_ u_ u_=>rfl) rfl rfl ?_
 intro C a1 a2 a3 a4 a5 a6 a7 a8 a9
 refine Sto.cel rfl rfl rfl (.t (.t (.t (.t (.t (.t (.t (.t .h)))))))) rfl ?_
 have hA':=hA.deep (Fra.e ⟨fd,a,C,a1,a2,a3,a4,a5,a6,a7,a8,a9⟩)
 refine lwBody ok B hA' ⟨fd,a,C,a1,a2,a3,a4,a5,a6,a7,a8,a9⟩ W script hz hT hP (fun led m Q' hm hr q=>?_) h
 refine G.f18.F.ev ok G.f18.g rfl rfl rfl rfl rfl rfl (Evs.co rfl (Ev.lo rfl rfl hm hr rfl (Evs.ni ?_)))
 exact w18 hc ok B G (hA'.le (by decide)) (Around.frames_deeper hfr) (Frs.cons (fun q=>by cases q) rfl hm .nil) _ rfl q
end
end
end Mine.Internal
end
section
open PySem PySem.W PySem.W.X PyProof.Rows
namespace Mine.Internal
section
noncomputable def bE (s:Shared):Frag:=([2,100,101,156,157,184,185,133,140,147,154,175,182,38,45,61,68,98]:List Nat).filterMap fun a=>(s.heap.get? a).map fun o=>(a,o)
noncomputable def finds:List ((Nat×PySem.Str)×Option (Option Value)):=
  [((157,"__init__"),some (some (.ref 133))),((157,"__setattr__"),some (some (.builtin "object.__setattr__"))),((157,iy),some none),((157,sIn),some none),((157,sWh),some none),((157,gB),some none),((157,iz),some none),
   ((157,sPush),some (some (.ref 154))),((157,sGet),some (some (.ref 147))),((157,sRc),some (some (.ref 140))),
   ((185,"__init__"),some (some (.ref 175))),((185,"__setattr__"),some (some (.builtin "object.__setattr__"))),((185,sSel),some none),((185,sCmp),some (some (.ref 182))),
   ((101,⟨⟨[97,112,112,101,110,100]⟩⟩),some (some (.builtin "list.append"))),((101,"__iter__"),some (some (.builtin "list.__iter__"))),((101,mu),some none),((101,"__init__"),some (some (.ref 38))),((101,⟨⟨[112,117,115,104]⟩⟩),some (some (.ref 45))),
   ((101,⟨⟨[112,111,112]⟩⟩),some (some (.ref 61))),((101,sPc),some (some (.ref 98))),((101,"__len__"),some (some (.ref 68))),((101,"__getattribute__"),some (some (.builtin "list.__getattribute__"))),((101,"__getattr__"),some none),((101,"__setattr__"),some (some (.builtin "object.__setattr__")))]
noncomputable def takers:List (Nat×PySem.Str):=[(157,iy),(157,sIn),(157,sWh),(157,gB),(157,iz),(185,sSel),(101,mu)]
noncomputable def fns:List Nat:=[133,140,147,154,175,182,38,45,61,68,98]
noncomputable def alongs:List (PySem.Str×Option (Option Value)):=[(⟨⟨[112,111,112]⟩⟩,some (some (.builtin "list.pop"))),(⟨⟨[95,95,108,101,110,95,95]⟩⟩,some (some (.builtin "list.__len__"))),(⟨⟨[95,95,105,110,105,116,95,95]⟩⟩,some (some (.builtin "list.__init__")))]
noncomputable def Yf2 (s:Shared):List (Option (Option Value))×List (Option (Option Value))×List (Option Value×Option (Option Value)×Option Bool)×List (Option (Option Value)):=
 (finds.map fun p=>findIn (bE s) (.ref p.1.1) p.1.2,takers.map fun p=>takerIn (bE s) p.1 p.2,fns.map fun f=>(typeIn (bE s) (.ref f),specialIn (bE s) (.ref f) "__get__",takesIn (bE s) (.ref f)),
  alongs.map fun p=>(clsIn (bE s) 101).bind fun cd=>alongIn (bE s) p.1 ((cd.mro.dropWhile (· != .ref 101)).drop 1))
noncomputable def Ya2:List (Option (Option Value))×List (Option (Option Value))×List (Option Value×Option (Option Value)×Option Bool)×List (Option (Option Value)):=
 (finds.map (·.2),takers.map fun u_=>some none,fns.map fun u_=>(some (.type "function"),some (some (.builtin "function.__get__")),some false),alongs.map (·.2))
noncomputable def lkHd (s:Shared) (c:Nat):Option (Value×Option Value×Value)×Bool:=match s.heap.get? c with
 | some o=>(match o.data with
  | .fields vs=>(some (o.cls,vs[11]?,vs.getD 11 .none),(match vs.getD 18 .none with | .str _ _=>true | _=>false) && ((match vs.getD 7 .none with | .int _ _=>true | _=>false) && ((match vs.getD 9 .none with | .bool _=>true | _=>false) && (match vs.getD 10 .none with | .int _ _=>true | _=>false))))
  | _=>(none,false))
 | none=>(none,false)
noncomputable def ez (p:Program) (s:Shared) (c:Nat):Bool:=match s.heap.get? c with
 | some o=>(match o.data with
  | .fields vs=>(match (vs[2]? : Option Value) with
   | some (.str f _)=>(p.main.file:PySem.Str) == f
   | _=>false)
  | _=>false)
 | none=>false
noncomputable def lkDfl (s:Shared):Bool:=match s.heap.get? 30 with
 | some o=>(match o.data with
  | .seq xs _=>(match xs.toList with
   | [.int 0 _]=>true
   | _=>false)
  | _=>false)
 | none=>false
noncomputable def names:List PySem.Str:=[sGrI,gP,⟨⟨[97,100,100,95,102,117,110,99,95,115,116,97,116,115]⟩⟩,⟨⟨[97,100,100,95,99,97,108,108,101,114,115]⟩⟩,⟨⟨[99,111,117,110,116,95,99,97,108,108,115]⟩⟩,nV,⟨⟨[95,108,97,119,95,119,111,114,100]⟩⟩,sSz,⟨⟨[95,108,97,119,95,116,111,108,100]⟩⟩,
 ⟨⟨[95,108,97,119,95,99,111,109,105,110,103,115]⟩⟩,sNote,⟨⟨[95,108,97,119,95,108,105,110,101]⟩⟩,⟨⟨[95,108,97,119,95,112,105,108,101]⟩⟩,⟨⟨[95,108,97,119,95,98,101,110,99,104]⟩⟩,⟨⟨[95,108,97,119,95,101,110,100]⟩⟩,⟨⟨[95,108,97,119,95,100,117,101]⟩⟩,⟨⟨[95,108,97,119,95,108,101,102,116]⟩⟩,
 ⟨⟨[95,110,101,116,114,99,108,101,120]⟩⟩,⟨⟨[84,117,112,108,101,67,111,109,112]⟩⟩,⟨⟨[95,65,99,99,117,109,117,108,97,116,111,114]⟩⟩,⟨⟨[108,97,119]⟩⟩]
noncomputable def nameAs:List Nat:=[112,119,196,203,210,217,222,227,232,237,244,249,254,259,264,269,274,157,185,101,279]
noncomputable def Yf3 (s:Shared):List (Option Addr)×List (Option Obj)×List (Option (Value×Option Value×Value)×Bool)×(Option Data×Option Value×Option (List Value))×(Nat×List (Option Bool)×Option Value×Option (Option Value))×Bool:=
 (names.map (classAt s.heap),[s.heap.get? 63,s.heap.get? 212],[lkHd s 216,lkHd s 67],((s.heap.get? 25).map (·.data),(s.heap.get? 101).map (·.cls),(clsIn (bE s) 101).map (·.mro)),(s.heap.objs.size,[mroIn (bE s) 101 (.ref 101),mroIn (bE s) 101 (.type "list"),mroIn (bE s) 101 (.type "module")],typeIn (bE s) (.builtin "list.append"),nsIn (bE s) cStatics "thirdparty.any"),
  (s.heap.get? sysModules).isSome && (ez pc.1 s 37 && (ez pc.1 s 60 && (ez pc.1 s 97 && (lkDfl s && (makesIn (bE s) 157 && (makesIn (bE s) 185 && (dX (bE s) 101 && (keepIn (bE s) (.ref 157) && (keepIn (bE s) (.ref 185) && (keepIn (bE s) (.ref 101) && (plainOver (bE s) 157 && (plainOver (bE s) 185 && (hasDictIn (bE s) 157 && (hasDictIn (bE s) 185 && (hasDictIn (bE s) 101 && (plainGet (bE s) 157 "" && (plainGet (bE s) 185 "" &&
   ((clsIn (bE s) 101).any fun cd=>toString cd.qualname.toString++toString "."++toString (Bind.lastOf "list.pop") != "*")))))))))))))))))))
noncomputable def Ya3:List (Option Addr)×List (Option Obj)×List (Option (Value×Option Value×Value)×Bool)×(Option Data×Option Value×Option (List Value))×(Nat×List (Option Bool)×Option Value×Option (Option Value))×Bool:=
 (nameAs.map some,[some (tabObj #[]),some (tabObj #[])],[(some (.type "code",some (.ref 212),.ref 212),true),(some (.type "code",some (.ref 63),.ref 63),true)],(some (.cell (some (.ref 101))),some (.type "type"),some [.ref 101,.type "list",.type "object"]),(280,[some true,some true,some false],some (.type "method_descriptor"),some none),true)
noncomputable def absent:List PySem.Str:=[⟨⟨[115,117,109]⟩⟩,⟨⟨[108,101,110]⟩⟩,⟨⟨[114,97,110,103,101]⟩⟩,⟨⟨[109,105,110]⟩⟩,⟨⟨[109,97,120]⟩⟩,⟨⟨[105,116,101,114]⟩⟩,⟨⟨[108,105,115,116]⟩⟩,⟨⟨[122,105,112]⟩⟩,⟨⟨[105,115,105,110,115,116,97,110,99,101]⟩⟩,⟨⟨[116,117,112,108,101]⟩⟩,cT,sVE]
noncomputable def kD (mg:PySem.Str->Option Value):Bool:=absent.all (fun x=>(mg x).isNone) && (match mg sCM with | some (.int 127 _)=>true | _=>false)
noncomputable abbrev XtM (s:Shared):Bool:=kD (s.heap.nsMap mainGlobals) && recOk [] s
noncomputable def YfM (s:Shared):=(Yf1 s,Yf2 s,Yf3 s)
noncomputable def YaM:=(Ya1,Ya2,Ya3)
theorem leftM:LeftO pc.1 vw.1 ["_Accumulator"] XtM YfM (fun u_=>YaM) 3524:=by
 intro w
 unfold openEnds fencedOpening topFrom
 simp -iota only [PySem.W.Fast.te10274390034422433532,PySem.W.Fast.te1435165496053646825,PySem.W.Fast.te14289696077712309145,PySem.W.Fast.te14082659384304107361,PySem.W.Fast.te8920871248978507458,PySem.W.Fast.te5923862056798008813,PySem.W.Fast.te4187177175401517315,PySem.W.Fast.te14364793385576792824]
 kernel_rfl
end
section
set_option tactic.hygienic true
noncomputable def mkC (w:World) (s0 s₁:Shared) (mg mb:PySem.Str->Option Value):Cst:=
 { prog:=PySem.Challenge.rw_xh0016_01.row.prog,w,H0:=less s₁.heap 63 212,os0:=s₁.os,mg,mb,K:=bE s0,gf:=none }
inductive FnOf (s:Shared) (a:Nat) (p:Arguments) (b:FuncBody) (sc:Scope) (cl:List (PySem.Str×Addr)) (g bu:Addr) (df kd cd:Value):Prop
 | mk (o:Obj) (fd:FuncData):s.heap.get? a=some o->o.data = .func fd->fd.params=p->fd.body=b->fd.scope=sc->fd.closure=cl->fd.globals=g->fd.builtins=bu->fd.defaults=df->fd.kwdefaults=kd->fd.code=cd->FnOf s a p b sc cl g bu df kd cd
theorem fn_of {s:Shared}{a:Nat}{p:Arguments}{b:FuncBody}{sc:Scope}{cl:List (PySem.Str×Addr)}{g bu:Addr}{df kd cd:Value} (h:lkFn s a=some (p,b,sc,cl,g,bu,df,kd,cd)):FnOf s a p b sc cl g bu df kd cd:=by
 unfold lkFn at h
 split at h
 ·rename_i o ho
  split at h
  ·rename_i fd hd
   cases h
   exact ⟨o,fd,ho,hd,rfl,rfl,rfl,rfl,rfl,rfl,rfl,rfl,rfl⟩
  ·exact nS h
 ·exact nS h
theorem q_of {s:Shared}{a c:Nat}{o:Obj}{fd:FuncData} (h:lkQ s a c=true) (ho:s.heap.get? a=some o) (hd:o.data = .func fd):∃ oc vs t,s.heap.get? c=some oc/\oc.data = .fields vs/\vs[1]? = some (.str fd.qualname t):=by
 unfold lkQ at h
 rw [ho] at h
 dsimp only at h
 rw [hd] at h
 dsimp only at h
 split at h
 ·rename_i oc hoc
  split at h
  ·rename_i vs hvs
   split at h
   ·rename_i q t hq
    rw [eq_of_beq h] at hq
    exact ⟨oc,vs,t,hoc,hvs,hq⟩
   ·exact fT h
  ·exact fT h
 ·exact fT h
section
variable {w:World}{s0 s₁:Shared}{mg mb:PySem.Str->Option Value}
theorem gq (k:∀ b o,s0.heap.get? b=some o->s₁.heap.get? b=some o){b:Addr}{o:Obj} (e:s0.heap.get? b=some o) (h1:b≠63) (h2:b≠212):(mkC w s0 s₁ mg mb).H0.get? b=some o:=by
 refine (?_:(less s₁.heap 63 212).get? b=_)
 refine rP bV (rP (aX h2) (rP (aX h1) ?_)); exact k _ _ e
variable (y:YfM s0=YaM)
include y
theorem seen1:Yf1 s0=Ya1:=congrArg (fun x=>x.1) y
theorem seen2:Yf2 s0=Ya2:=congrArg (fun x=>x.2.1) y
theorem jM:Yf3 s0=Ya3:=congrArg (fun x=>x.2.2) y
theorem seenFn {p:Txt×Nat} (h:p∈plains):lkFn s0 p.2=fnT p.1 (p.2 - 1) [] .none/\lkQ s0 p.2 (p.2 - 1)=true:=by
 have e1:(plains.map fun p=>lkFn s0 p.2)=plains.map fun p=>fnT p.1 (p.2 - 1) [] .none:=congrArg (fun x:List (Option FnV)×Bool=>x.1.drop 3) (seen1 y)
 have e2:(lkQ s0 38 37 && (lkQ s0 61 60 && (lkQ s0 98 97 && plains.all fun p=>lkQ s0 p.2 (p.2 - 1))))=true:=congrArg (fun x:List (Option FnV)×Bool=>x.2) (seen1 y)
 simp -iota only [Bool.and_eq_true] at e2
 exact ⟨List.map_inj_left.mp e1 p h,List.all_eq_true.mp e2.2.2.2 p h⟩
theorem dw {p:(Nat×PySem.Str)×Option (Option Value)} (h:p∈finds):findIn (mkC w s0 s₁ mg mb).K (.ref p.1.1) p.1.2=p.2:=
 List.map_inj_left.mp (congrArg (fun x=>x.1) (seen2 y):(finds.map fun p=>findIn (bE s0) (.ref p.1.1) p.1.2)=finds.map (·.2)) p h
theorem lB {p:Nat×PySem.Str} (h:p∈takers):takerIn (mkC w s0 s₁ mg mb).K p.1 p.2=some none:=
 List.map_inj_left.mp (congrArg (fun x=>x.2.1) (seen2 y):(takers.map fun p=>takerIn (bE s0) p.1 p.2)=takers.map fun u_=>some none) p h
theorem ja {f:Nat} (h:f∈fns):typeIn (mkC w s0 s₁ mg mb).K (.ref f)=some (.type "function")/\specialIn (mkC w s0 s₁ mg mb).K (.ref f) "__get__" = some (some (.builtin "function.__get__"))/\takesIn (mkC w s0 s₁ mg mb).K (.ref f)=some false:=by
 have e:=List.map_inj_left.mp (congrArg (fun x=>x.2.2.1) (seen2 y):(fns.map fun f=>(typeIn (bE s0) (.ref f),specialIn (bE s0) (.ref f) "__get__",takesIn (bE s0) (.ref f)))=fns.map fun u_=>(some (.type "function"),some (some (.builtin "function.__get__")),some false)) f h
 exact ⟨congrArg (·.1) e,congrArg (·.2.1) e,congrArg (·.2.2) e⟩
variable (k:∀ b o,s0.heap.get? b=some o->s₁.heap.get? b=some o)
include k
theorem mB {p:Txt×Nat} (h:p∈plains) (n:p.2≠63/\p.2≠212/\p.2 - 1≠63/\p.2 - 1≠212):∃ fd,FnAt (mkC w s0 s₁ mg mb) p.2 p.1 fd/\fd.code = .ref (p.2 - 1):=by
 obtain ⟨e1,e2⟩:=seenFn y h
 obtain ⟨o,fd,ho,hd,p1,p2,p3,p4,p5,p6,p7,p8,p9⟩:=fn_of e1
 obtain ⟨oc,vs,t,hc,hv,hq⟩:=q_of e2 ho hd
 exact ⟨fd,⟨⟨o,gq k ho n.1 n.2.1,hd⟩,⟨_,oc,vs,t,p9,gq k hc n.2.2.1 n.2.2.2,hv,hq⟩,p2,p1,p3,p4,p5,p6,p7,p8⟩,p9⟩
variable (G:∀ x a,classAt s0.heap x=some a->mg x=some (.ref a))
include G
theorem dz {i:Nat}{x:PySem.Str}{a:Nat} (h1:names[i]? = some x) (h2:nameAs[i]? = some a):mg x=some (.ref a):=by
 have e:(names.map (classAt s0.heap))=nameAs.map some:=congrArg (fun x=>x.1) (jM y)
 have:=congrArg (fun l:List (Option Addr)=>l[i]?) e
 simp -iota only [aK,h1,h2,Option.map_some,Option.some.injEq] at this
 exact G _ _ this
noncomputable def dD {t:Txt}{x:PySem.Str}{a i j:Nat} (h:plains[j]? = some (t,a)) (n:a≠63/\a≠212/\a - 1≠63/\a - 1≠212) (h1:names[i]? = some x) (h2:nameAs[i]? = some a):Def (mkC w s0 s₁ mg mb) t x:=
 ⟨a,(mB y k (ay h) n).choose,(mB y k (ay h) n).choose_spec.1,dz y k G h1 h2⟩
theorem mkNt:Nonempty (Nt (mkC w s0 s₁ mg mb)):=
 ⟨⟨dD y k G (j:=1) (i:=1) rfl (by decide) rfl rfl,dD y k G (j:=8) (i:=2) rfl (by decide) rfl rfl,dD y k G (j:=9) (i:=3) rfl (by decide) rfl rfl,dD y k G (j:=16) (i:=10) rfl (by decide) rfl rfl⟩⟩
end
end
section
set_option tactic.hygienic true
theorem jb {s:Shared}{c P:Nat} (h:lkHd s c=(some (.type "code",some (.ref P),.ref P),true)) (n:c≠P):CodeHd s.heap c P:=by
 unfold lkHd at h
 split at h
 ·rename_i o ho
  split at h
  ·rename_i vs hv
   have a:=congrArg (·.1) h
   have b:=congrArg (·.2) h
   simp -iota only [Option.some.injEq,Prod.mk.injEq] at a
   simp -iota only [Bool.and_eq_true] at b
   obtain ⟨a1,a2,a3⟩:=a
   obtain ⟨b1,b2,b3,b4⟩:=b
   split at b1
   ·rename_i f tf e1
    split at b2
    ·rename_i i ti e2
     split at b3
     ·rename_i bb e3
      split at b4
      ·rename_i j tj e4
       exact ⟨o,vs,f,tf,i,ti,bb,j,tj,ho,a1,hv,a2,a3,e1,e2,e3,e4,n⟩
      ·exact fT b4
     ·exact fT b3
    ·exact fT b2
   ·exact fT b1
  ·cases congrArg (·.2) h
 ·cases congrArg (·.2) h
structure SeenB (s:Shared):Prop where
 sm:(s.heap.get? sysModules).isSome=true
 f37:ez pc.1 s 37=true
 f60:ez pc.1 s 60=true
 f97:ez pc.1 s 97=true
 df:lkDfl s=true
 m1:makesIn (bE s) 157=true
 m2:makesIn (bE s) 185=true
 m3:dX (bE s) 101=true
 k1:keepIn (bE s) (.ref 157)=true
 k2:keepIn (bE s) (.ref 185)=true
 k3:keepIn (bE s) (.ref 101)=true
 p1:plainOver (bE s) 157=true
 p2:plainOver (bE s) 185=true
 h1:hasDictIn (bE s) 157=true
 h2:hasDictIn (bE s) 185=true
 h3:hasDictIn (bE s) 101=true
 g1:∀ x,plainGet (bE s) 157 x=true
 g2:∀ x,plainGet (bE s) 185 x=true
 nm:((clsIn (bE s) 101).any fun cd=>toString cd.qualname.toString++toString "."++toString (Bind.lastOf "list.pop") != "*")=true
section
variable {w:World}{s0 s₁:Shared}{mg mb:PySem.Str->Option Value} (y:YfM s0=YaM) (k:∀ b o,s0.heap.get? b=some o->s₁.heap.get? b=some o) (G:∀ x a,classAt s0.heap x=some a->mg x=some (.ref a))
include y
theorem seenB:SeenB s0:=by
 have e:((s0.heap.get? sysModules).isSome && _)=true:=congrArg (fun x=>x.2.2.2.2.2) (jM y)
 exact ⟨aL e,aL (aR e),aL (aR (aR e)),aL (aR (aR (aR e))),aL (aR (aR (aR (aR e)))),aL (aR (aR (aR (aR (aR e))))),aL (aR (aR (aR (aR (aR (aR e)))))),aL (aR (aR (aR (aR (aR (aR (aR e))))))),aL (aR (aR (aR (aR (aR (aR (aR (aR e)))))))),aL (aR (aR (aR (aR (aR (aR (aR (aR (aR e))))))))),aL (aR (aR (aR (aR (aR (aR (aR (aR (aR (aR e)))))))))),aL (aR (aR (aR (aR (aR (aR (aR (aR (aR (aR (aR e))))))))))),aL (aR (aR (aR (aR (aR (aR (aR (aR (aR (aR (aR (aR e)))))))))))),aL (aR (aR (aR (aR (aR (aR (aR (aR (aR (aR (aR (aR (aR e))))))))))))),aL (aR (aR (aR (aR (aR (aR (aR (aR (aR (aR (aR (aR (aR (aR e)))))))))))))),aL (aR (aR (aR (aR (aR (aR (aR (aR (aR (aR (aR (aR (aR (aR (aR e))))))))))))))),fun u_=>aL (aR (aR (aR (aR (aR (aR (aR (aR (aR (aR (aR (aR (aR (aR (aR (aR e)))))))))))))))),fun u_=>aL (aR (aR (aR (aR (aR (aR (aR (aR (aR (aR (aR (aR (aR (aR (aR (aR (aR e))))))))))))))))),aR (aR (aR (aR (aR (aR (aR (aR (aR (aR (aR (aR (aR (aR (aR (aR (aR (aR e)))))))))))))))))⟩
theorem setAt {C:Nat}{x:PySem.Str} (h1:((C,("__setattr__" : PySem.Str)),some (some (Value.builtin "object.__setattr__")))∈finds) (h2:plainOver (mkC w s0 s₁ mg mb).K C=true) (h3:(C,x)∈takers) (h4:hasDictIn (mkC w s0 s₁ mg mb).K C=true):eg (mkC w s0 s₁ mg mb) C x:=
 ⟨dw y h1,h2,lB y (p:=(C,x)) h3,h4⟩
theorem ownAt {C:Nat}{x:PySem.Str} (h1:((C,x),some none)∈finds) (h2:plainGet (mkC w s0 s₁ mg mb).K C x=true) (h4:hasDictIn (mkC w s0 s₁ mg mb).K C=true):eF (mkC w s0 s₁ mg mb) C x:=⟨h2,h4,dw y h1⟩
theorem mthAt {C f:Nat}{x:PySem.Str} (h1:((C,x),some (some (.ref f)))∈finds) (h2:plainGet (mkC w s0 s₁ mg mb).K C x=true) (h4:hasDictIn (mkC w s0 s₁ mg mb).K C=true) (h5:f∈fns):nE (mkC w s0 s₁ mg mb) C x f:=by
 obtain ⟨a,b,d⟩:=ja (w:=w) (s₁:=s₁) (mg:=mg) (mb:=mb) y h5
 exact ⟨h2,h4,dw y h1,by unfold isFn; refine rP a ?_; exact bq _,b,d,a⟩
include k G
theorem mkLx (hb:(mkC w s0 s₁ mg mb).H0.BuiltinsAt (mkC w s0 s₁ mg mb).mg 212):∃ L:Lx (mkC w s0 s₁ mg mb),L.T=212/\L.f16.a=217:=by
 have sb:=seenB y
 obtain ⟨fI,FI,_⟩:=mB (w:=w) (mg:=mg) (mb:=mb) y k (p:=(m9init.1,133)) (ay (i:=2) rfl) (by decide)
 obtain ⟨fR,FR,_⟩:=mB (w:=w) (mg:=mg) (mb:=mb) y k (p:=(m9read.1,140)) (ay (i:=3) rfl) (by decide)
 obtain ⟨fG,FG,_⟩:=mB (w:=w) (mg:=mg) (mb:=mb) y k (p:=(m9get.1,147)) (ay (i:=4) rfl) (by decide)
 obtain ⟨fP,FP,_⟩:=mB (w:=w) (mg:=mg) (mb:=mb) y k (p:=(m9push.1,154)) (ay (i:=5) rfl) (by decide)
 obtain ⟨f16,F16,c16⟩:=mB (w:=w) (mg:=mg) (mb:=mb) y k (p:=(t16.1,217)) (ay (i:=11) rfl) (by decide)
 have hset:=fun (x:PySem.Str) (h:(157,x)∈takers)=>setAt (w:=w) (s₁:=s₁) (mg:=mg) (mb:=mb) y (C:=157) (x:=x) (ay (i:=1) rfl) sb.p1 h sb.h1
 have hown:=fun (x:PySem.Str) (h:((157,x),some none)∈finds)=>ownAt (w:=w) (s₁:=s₁) (mg:=mg) (mb:=mb) y (C:=157) (x:=x) h (sb.g1 x) sb.h1
 have e3:=congrArg (fun x=>x.2.2.1) (jM y)
 have e3:[lkHd s0 216,lkHd s0 67]=[(some (.type "code",some (.ref 212),.ref 212),true),(some (.type "code",some (.ref 63),.ref 63),true)]:=e3
 have h216:=jb (List.cons.inj e3).1 (by decide)
 have H:CodeHd (mkC w s0 s₁ mg mb).H0 216 212:=by
  obtain ⟨o,vs,f,tf,i,ti,bb,j,tj,ho,r⟩:=h216
  exact ⟨o,vs,f,tf,i,ti,bb,j,tj,gq k ho (by decide) (by decide),r⟩
 refine ⟨{ Kl:=157,fI:=133,fdI:=fI,fR:=140,fdR:=fR,fP:=154,fdP:=fP,fG:=147,fdG:=fG,FP:=FP,FG:=FG,cc:=216,T:=212,K:=⟨FI,sb.m1,sb.k1,dw y (p:=((157,("__init__" : PySem.Str)),some (some (.ref 133)))) (ay (i:=0) rfl),(ja y (ay (i:=0) rfl)).1,hset _ (ay (i:=0) rfl),hset _ (ay (i:=1) rfl),hset _ (ay (i:=2) rfl),hset _ (ay (i:=3) rfl),hset _ (ay (i:=4) rfl),dz y k G (i:=17) rfl rfl⟩,X:=⟨FR,hown _ (ay (i:=3) rfl),hown _ (ay (i:=6) rfl),hown _ (ay (i:=2) rfl),hset _ (ay (i:=0) rfl),hown _ (ay (i:=4) rfl),hown _ (ay (i:=5) rfl),mthAt y (ay (i:=9) rfl) (sb.g1 _) sb.h1 (ay (i:=1) rfl)⟩,MP:=mthAt y (ay (i:=7) rfl) (sb.g1 _) sb.h1 (ay (i:=3) rfl),MG:=mthAt y (ay (i:=8) rfl) (sb.g1 _) sb.h1 (ay (i:=2) rfl),f16:=⟨217,f16,F16,dz y k G (i:=5) rfl rfl⟩,N:=⟨c16,H,by decide,hb⟩ },rfl,rfl⟩
theorem mkTc:Nonempty (Tc (mkC w s0 s₁ mg mb)):=by
 have sb:=seenB y
 obtain ⟨fI,FI,_⟩:=mB (w:=w) (mg:=mg) (mb:=mb) y k (p:=(m11init.1,175)) (ay (i:=6) rfl) (by decide)
 obtain ⟨fC,FC,_⟩:=mB (w:=w) (mg:=mg) (mb:=mb) y k (p:=(m11cmp.1,182)) (ay (i:=7) rfl) (by decide)
 exact ⟨{ Kt:=185,fI:=175,fdI:=fI,f:=FI,mak:=sb.m2,kp:=sb.k2,i:=dw y (p:=((185,("__init__" : PySem.Str)),some (some (.ref 175)))) (ay (i:=10) rfl),ty:=(ja y (ay (i:=4) rfl)).1,s:=setAt y (ay (i:=11) rfl) sb.p2 (ay (i:=5) rfl) sb.h2,o:=ownAt y (ay (i:=12) rfl) (sb.g2 _) sb.h2,g:=dz y k G (i:=18) rfl rfl,fC:=182,fdC:=fC,FC:=FC,MC:=mthAt y (ay (i:=13) rfl) (sb.g2 _) sb.h2 (ay (i:=5) rfl) }⟩
end
end
section
set_option tactic.hygienic true
theorem eA {h:Heap}{a:Addr}{o:Obj}:∀ l:List Nat,(l.filterMap fun a=>(h.get? a).map fun o=>(a,o)).lookup a=some o->h.get? a=some o/\a∈l
 | [],e=>by exact nS e
 | b::l,e=>by
  rw [List.filterMap_cons] at e
  cases q:h.get? b with
  | none=>
   rw [q] at e
   have:=eA l e
   exact ⟨this.1,.tail _ this.2⟩
  | some x=>
   rw [q] at e
   simp only [Option.map_some,aS] at e
   by_cases r:a=b
   ·subst r; simp at e; subst e; exact ⟨q,.head _⟩
   ·rw [show (a == b)=false from beq_eq_false_iff_ne.mpr r] at e
    have:=eA l e
    exact ⟨this.1,.tail _ this.2⟩
theorem file_of {s:Shared}{c:Nat} (h:ez pc.1 s c=true):∃ o vs f tf,s.heap.get? c=some o/\o.data = .fields vs/\vs[2]? = some (.str f tf)/\((PySem.Challenge.rw_xh0016_01.row.prog.main.file:PySem.Str) == f)=true:=by
 have e:PySem.Challenge.rw_xh0016_01.row.prog=pc.1:=pc.2.symm
 refine rP e ?_
 unfold ez at h
 split at h
 ·rename_i o ho
  split at h
  ·rename_i vs hv
   split at h
   ·rename_i f tf hf; exact ⟨o,vs,f,tf,ho,hv,hf,h⟩
   ·exact fT h
  ·exact fT h
 ·exact fT h
theorem dfl_of {s:Shared} (h:lkDfl s=true):∃ o n t,s.heap.get? 30=some o/\o.data = .seq #[.int 0 t] n:=by
 unfold lkDfl at h
 split at h
 ·rename_i o ho
  split at h
  ·rename_i xs n hv
   split at h
   ·rename_i t hx
    refine ⟨o,n,t,ho,?_⟩
    refine rP hv ?_
    have:xs = #[.int 0 t]:=Array.ext' (by exact rP hx rfl)
    exact rP this rfl
   ·exact fT h
  ·exact fT h
 ·exact fT h
section
variable {w:World}{s0 s₁:Shared}{mg mb:PySem.Str->Option Value} (y:YfM s0=YaM) (k:∀ b o,s0.heap.get? b=some o->s₁.heap.get? b=some o) (G:∀ x a,classAt s0.heap x=some a->mg x=some (.ref a))
theorem kIn (k:∀ b o,s0.heap.get? b=some o->s₁.heap.get? b=some o):(mkC w s0 s₁ mg mb).K.In (mkC w s0 s₁ mg mb).H0:=fun a o e=>by
 obtain ⟨h,m⟩:=eA _ e
 refine gq k h (fun q=>?_) (fun q=>?_) <;> subst q <;> exact absurd m (by decide)
include y k
theorem fnS {a cd:Nat}{t:Txt}{d:Value} (h1:lkFn s0 a=fnT t cd [(dJ,25)] d) (h2:lkQ s0 a cd=true) (h3:ez pc.1 s0 cd=true) (n:a≠63/\a≠212/\cd≠63/\cd≠212):∃ fd,FnS (mkC w s0 s₁ mg mb) a 25 t fd/\fd.defaults=d/\fd.kwdefaults = .none:=by
 obtain ⟨o,fd,ho,hd,p1,p2,p3,p4,p5,p6,p7,p8,p9⟩:=fn_of h1
 obtain ⟨oc,vs,t',hc,hv,hq⟩:=q_of h2 ho hd
 obtain ⟨o2,vs2,f,tf,g1,g2,g3,g4⟩:=file_of h3
 exact ⟨fd,⟨⟨o,gq k ho n.1 n.2.1,hd⟩,⟨_,oc,vs,t',p9,gq k hc n.2.2.1 n.2.2.2,hv,hq⟩,⟨_,o2,vs2,f,tf,p9,gq k g1 n.2.2.1 n.2.2.2,g2,g3,g4⟩,p2,p1,p3,p4,p5,p6⟩,p7,p8⟩
include G
theorem mkAc (hb:(mkC w s0 s₁ mg mb).H0.BuiltinsAt (mkC w s0 s₁ mg mb).mg 63) (hs:mg cT=none/\mb cT=some (.type "super")):∃ P:Ac (mkC w s0 s₁ mg mb),P.T=63:=by
 have sb:=seenB y
 have e1:=seen1 y
 have f1:lkFn s0 38=fnT m3init.1 37 [(dJ,25)] (.ref 30):=(List.cons.inj (congrArg (·.1) e1:_::_=_::_)).1
 have f2:lkFn s0 61=fnT m3pop.1 60 [(dJ,25)] .none:=(List.cons.inj (List.cons.inj (congrArg (·.1) e1:_::_::_=_::_::_)).2).1
 have f3:lkFn s0 98=fnT m3count.1 97 [(dJ,25)] .none:=(List.cons.inj (List.cons.inj (List.cons.inj (congrArg (·.1) e1:_::_::_::_=_::_::_::_)).2).2).1
 have q0:(lkQ s0 38 37 && (lkQ s0 61 60 && (lkQ s0 98 97 && plains.all fun p=>lkQ s0 p.2 (p.2 - 1))))=true:=congrArg (fun x:List (Option FnV)×Bool=>x.2) e1
 simp -iota only [Bool.and_eq_true] at q0
 obtain ⟨fI,FI,dI,kI⟩:=fnS (w:=w) (mg:=mg) (mb:=mb) y k f1 q0.1 sb.f37 (by decide)
 obtain ⟨fO,FO,dO,kO⟩:=fnS (w:=w) (mg:=mg) (mb:=mb) y k f2 q0.2.1 sb.f60 (by decide)
 obtain ⟨fN,FN,dN,kN⟩:=fnS (w:=w) (mg:=mg) (mb:=mb) y k f3 q0.2.2.1 sb.f97 (by decide)
 obtain ⟨fU,FU,_⟩:=mB (w:=w) (mg:=mg) (mb:=mb) y k (p:=(m3push.1,45)) (ay (i:=24) rfl) (by decide)
 obtain ⟨fL,FL,cL⟩:=mB (w:=w) (mg:=mg) (mb:=mb) y k (p:=(m3len.1,68)) (ay (i:=25) rfl) (by decide)
 have e3:((s0.heap.get? 25).map (·.data),(s0.heap.get? 101).map (·.cls),(clsIn (bE s0) 101).map (·.mro))=(some (.cell (some (.ref 101))),some (.type "type"),some [.ref 101,.type "list",.type "object"]):=congrArg (fun x=>x.2.2.2.1) (jM y)
 obtain ⟨o25,h25,d25⟩:=Option.map_eq_some_iff.mp (congrArg (·.1) e3:(s0.heap.get? 25).map (·.data)=_)
 obtain ⟨o101,h101,d101⟩:=Option.map_eq_some_iff.mp (congrArg (·.2.1) e3:(s0.heap.get? 101).map (·.cls)=_)
 obtain ⟨cd,hcd,hmro⟩:=Option.map_eq_some_iff.mp (congrArg (·.2.2) e3:(clsIn (bE s0) 101).map (·.mro)=_)
 have hcd:clsIn (mkC w s0 s₁ mg mb).K 101=some cd:=hcd
 have e4:(s0.heap.objs.size,[mroIn (bE s0) 101 (.ref 101),mroIn (bE s0) 101 (.type "list"),mroIn (bE s0) 101 (.type "module")],typeIn (bE s0) (.builtin "list.append"),nsIn (bE s0) cStatics "thirdparty.any")=(280,[some true,some true,some false],some (.type "method_descriptor"),some none):=congrArg (fun x=>x.2.2.2.2.1) (jM y)
 have m0:=congrArg (·.2.1) e4
 have al:=fun (p:PySem.Str×Option (Option Value)) (h:p∈alongs)=>List.map_inj_left.mp (congrArg (fun x=>x.2.2.2) (seen2 y):(alongs.map fun p=>(clsIn (bE s0) 101).bind fun cd=>alongIn (bE s0) p.1 ((cd.mro.dropWhile (· != .ref 101)).drop 1))=alongs.map (·.2)) p h
 have al:∀ p∈alongs,alongIn (mkC w s0 s₁ mg mb).K p.1 ((cd.mro.dropWhile (· != .ref 101)).drop 1)=p.2:=fun p h=>by
  have:=al p h
  rw [show clsIn (bE s0) 101=some cd from hcd] at this
  exact this
 have obj:∃ od sl,(mkC w s0 s₁ mg mb).H0.get? 101=some ⟨.type "type",od,.cls cd,sl⟩:=by
  have h:=hcd
  unfold clsIn at h
  split at h
  ·rename_i oc od cd' sl hl
   cases h
   have g1:=kIn k _ _ hl
   have g2:=(eA _ hl).1
   rw [h101] at g2
   cases g2
   have d101:oc = .type "type":=d101
   subst d101
   exact ⟨od,sl,g1⟩
  ·exact nS h
 have et:(mkC w s0 s₁ mg mb).prog=pc.1:=pc.2.symm
 have e5:=congrArg (fun x=>x.2.2.1) (jM y)
 have e5:[lkHd s0 216,lkHd s0 67]=[(some (.type "code",some (.ref 212),.ref 212),true),(some (.type "code",some (.ref 63),.ref 63),true)]:=e5
 have H:CodeHd (mkC w s0 s₁ mg mb).H0 67 63:=by
  obtain ⟨o,vs,f,tf,i,ti,bb,j,tj,ho,r⟩:=jb (List.cons.inj (List.cons.inj e5).2).1 (by decide)
  exact ⟨o,vs,f,tf,i,ti,bb,j,tj,gq k ho (by decide) (by decide),r⟩
 have sf:=fun (i:Nat){p:(Nat×PySem.Str)×Option (Option Value)} (h:finds[i]? = some p)=>dw (w:=w) (s₁:=s₁) (mg:=mg) (mb:=mb) y (ay h)
 have sn:=fun (i:Nat){f:Nat} (h:fns[i]? = some f)=>(ja (w:=w) (s₁:=s₁) (mg:=mg) (mb:=mb) y (ay h)).1
 obtain ⟨o30,n30,t30,h30,g30⟩:=dfl_of sb.df
 refine ⟨{ C:=101,cl:=25,cd:=cd,K:=⟨sb.m3,sb.k3,⟨o25,gq k h25 (by decide) (by decide),d25⟩,obj,hcd,congrArg (·.2.2.2) e4,(List.cons.inj m0).1,(List.cons.inj (List.cons.inj m0).2).1,(List.cons.inj (List.cons.inj (List.cons.inj m0).2).2).1,?nm,al _ (ay (i:=0) rfl),al _ (ay (i:=1) rfl),al _ (ay (i:=2) rfl),hs,?tp,hmro,sf 22 rfl,sf 23 rfl,sf 24 rfl,sb.h3⟩,g:=dz y k G (i:=19) rfl rfl,ap:=sf 14 rfl,apt:=congrArg (·.2.2.1) e4,it:=sf 15 rfl,ini:=sf 16 rfl,tk:=lB y (p:=(101,mu)) (ay (i:=6) rfl),fI:=38,fdI:=fI,FI:=FI,dT:=30,dfI:=dI,hT:=⟨o30,n30,t30,gq k h30 (by decide) (by decide),g30⟩,kdI:=kI,fIi:=sf 17 rfl,fIt:=sn 6 rfl,fU:=45,fdU:=fU,FU:=FU,fUi:=sf 18 rfl,fUt:=sn 7 rfl,fO:=61,fdO:=fO,FO:=FO,dfO:=dO,kdO:=kO,fOi:=sf 19 rfl,fOt:=sn 8 rfl,fN:=98,fdN:=fN,FN:=FN,dfN:=dN,kdN:=kN,fNi:=sf 20 rfl,fNt:=sn 10 rfl,fL:=68,fdL:=fL,FL:=FL,cc:=67,T:=63,NL:=⟨cL,H,by decide,hb⟩,fLi:=sf 21 rfl,fLt:=?lt,gf:=rfl },rfl⟩
 case nm=>have nm:=sb.nm; rw [show clsIn (bE s0) 101=some cd from hcd] at nm; exact nm
 case tp=>refine rP et ?_; rfl
 case lt=>unfold isFn; refine rP (sn 9 rfl) ?_; exact bq _
end
end
section
theorem pre63 {ns:List Int} (h:(WTm.and (.not (.lt (.lit (.int 63)) (.len (.arg 0)))) (.lit (.bool true))).holds [] { args:=[.list (ns.map .int)] }=true):ns.length<=63:=by
 have v:(WTm.not (.lt (.lit (.int 63)) (.len (.arg 0)))).value [] { args:=[.list (ns.map .int)] }=some (.bool (!decide ((63:Int)<((ns.map WData.int).length:Int)))):=rfl
 have b:=of_decide_eq_false (Bool.not_inj (condW_of (holds_andW h).1 v:_ = !false))
 exact (am WData.int) ▸ Int.ofNat_le.1 (Int.not_lt.1 b)
end
section
set_option tactic.hygienic true
section
variable {w:World}{s0 s₁:Shared}{mg mb:PySem.Str->Option Value}
theorem absentOf (h:kD mg=true){x:PySem.Str} (hx:x∈absent):mg x=none:=by
 unfold kD at h
 exact Option.isNone_iff_eq_none.mp (List.all_eq_true.mp (Bool.and_eq_true_iff.mp h).1 x hx)
theorem cmOf (h:kD mg=true):∃ t,mg sCM=some (.int 127 t):=by
 unfold kD at h
 have h:=(Bool.and_eq_true_iff.mp h).2
 split at h
 ·rename_i t e; exact ⟨t,e⟩
 ·exact fT h
theorem mkBui (h:kD mg=true) (hb:∀ x:PySem.Str,x≠"__name__"->mb x=bootBuiltins x):Bui (mkC w s0 s₁ mg mb)/\(mg cT=none/\mb cT=some (.type "super"))/\(mg sVE=none/\mb sVE=some (.type "ValueError")):=by
 have a:=fun (i:Nat){x:PySem.Str} (e:absent[i]? = some x)=>absentOf h (ay e)
 have b:=fun {x:PySem.Str}{v:Value} (n:x≠"__name__") (e:bootBuiltins x=some v)=>(hb x n).trans e
 exact ⟨⟨⟨a 0 rfl,b (by decide) (by kernel_rfl)⟩,⟨a 1 rfl,b (by decide) (by kernel_rfl)⟩,⟨a 2 rfl,b (by decide) (by kernel_rfl)⟩,⟨a 3 rfl,b (by decide) (by kernel_rfl)⟩,⟨a 4 rfl,b (by decide) (by kernel_rfl)⟩,⟨a 5 rfl,b (by decide) (by kernel_rfl)⟩,⟨a 6 rfl,b (by decide) (by kernel_rfl)⟩,⟨a 7 rfl,b (by decide) (by kernel_rfl)⟩,⟨a 8 rfl,b (by decide) (by kernel_rfl)⟩,⟨a 9 rfl,b (by decide) (by kernel_rfl)⟩⟩,
  ⟨a 10 rfl,b (by decide) (by kernel_rfl)⟩,⟨a 11 rfl,b (by decide) (by kernel_rfl)⟩⟩
theorem kG {h:Heap}{L:Addr}{m:PySem.Str->Option Value} (x:h.Ns L m) (h1:L≠63) (h2:L≠212):(less h 63 212).Ns L m:=by
 obtain ⟨o,es,ep,e,r⟩:=x
 exact ⟨o,es,ep,by refine rP bV (rP (aX h2) (rP (aX h1) ?_)); exact e,r⟩
variable (y:YfM s0=YaM) (k:∀ b o,s0.heap.get? b=some o->s₁.heap.get? b=some o)
include y k
theorem tabs:s₁.heap.get? 63=some (tabObj #[])/\s₁.heap.get? 212=some (tabObj #[]):=by
 have e:[s0.heap.get? 63,s0.heap.get? 212]=[some (tabObj #[]),some (tabObj #[])]:=congrArg (fun x=>x.2.1) (jM y)
 exact ⟨k _ _ (List.cons.inj e).1,k _ _ (List.cons.inj (List.cons.inj e).2).1⟩
theorem mkOk {p:Program}{lo:List PySem.Str}{mean:ExcName->Option Value} (T:Top p lo mean mg mb s₁.heap):(mkC w s0 s₁ mg mb).Ok/\∀ P,P=63\/P=212->(mkC w s0 s₁ mg mb).H0.BuiltinsAt (mkC w s0 s₁ mg mb).mg P:=by
 obtain ⟨t63,t212⟩:=tabs y k
 obtain ⟨mc,n1,n2⟩:=T.nolimit
 obtain ⟨o1,h1⟩:=Option.isSome_iff_exists.mp (seenB y).sm
 refine ⟨⟨kG T.g (by decide) (by decide),kG T.b (by decide) (by decide),⟨mc,kG n1 (by decide) (by decide),n2⟩,⟨o1,gq k h1 (by decide) (by decide)⟩,kIn k⟩,fun P hP=>?_⟩
 obtain ⟨bm,ob,a1,a2,a3,a4,a5,a6⟩:=T.bmain
 have n63:bm≠63:=fun q=>by subst q; rw [<- Option.some.inj (t63.symm.trans a3)] at a6; cases a6
 have n212:bm≠212:=fun q=>by subst q; rw [<- Option.some.inj (t212.symm.trans a3)] at a6; cases a6
 refine ⟨bm,ob,a1,a2,fun q=>?_,fun q=>?_,?_,a4,a5,a6⟩
 ·subst q
  obtain ⟨o,es,ep,e,d,_⟩:=T.g
  rw [<- Option.some.inj (a3.symm.trans e),a6] at d; cases d
 ·rcases hP with rfl | rfl
  ·exact n63 q
  ·exact n212 q
 ·refine (?_:(less s₁.heap 63 212).get? bm=_)
  refine rP bV (rP (aX n212) (rP (aX n63) ?_)); exact a3
theorem mkR {L:Lx (mkC w s0 s₁ mg mb)} (hg:s₁.gens = #[]):R (mkC w s0 s₁ mg mb) (mkC w s0 s₁ mg mb).H0.get? [(212,L.tab),(63,.tabG)] s₁:=by
 obtain ⟨t63,t212⟩:=tabs y k
 have z:∀ a,(mkC w s0 s₁ mg mb).H0.get? a=if a=212 then none else if a=63 then none else s₁.heap.get? a:=fun a=>bV
 refine ⟨fun u_ u_ e=>e,fun a o e=>?_,fun p hp=>?_,fun p hp=>?_,by show [212,63].Nodup; decide,⟨.of_eq hg,fun u_ e=>by exact nS e⟩,rfl⟩
 ·rw [z] at e
  split at e
  ·exact nS e
  ·split at e
   ·exact nS e
   ·exact e
 ·rcases List.mem_cons.mp hp with rfl | hp
  ·exact ⟨_,t212,.tab trivial (.inl rfl)⟩
  ·refine rP (List.mem_singleton.mp hp) ?_; exact ⟨_,t63,.tabG trivial⟩
 ·rcases List.mem_cons.mp hp with rfl | hp
  ·exact (z 212).trans (aY rfl)
  ·refine rP (List.mem_singleton.mp hp) ?_; exact ((z 63).trans (aX (by decide))).trans (aY rfl)
theorem oldK {Z':HP}{L:Lx (mkC w s0 s₁ mg mb)}{s':Shared} (hz:HP.le (mkC w s0 s₁ mg mb).H0.get? Z') (r:R (mkC w s0 s₁ mg mb) Z' [(212,L.tab),(63,.tabG)] s'):OldK s₁.heap s'.heap:=by
 obtain ⟨t63,t212⟩:=tabs y k
 have z:∀ a,(mkC w s0 s₁ mg mb).H0.get? a=if a=212 then none else if a=63 then none else s₁.heap.get? a:=fun a=>bV
 have e5:[lkHd s0 216,lkHd s0 67]=[(some (.type "code",some (.ref 212),.ref 212),true),(some (.type "code",some (.ref 63),.ref 63),true)]:=congrArg (fun x=>x.2.2.1) (jM y)
 have c1:isCodeTable s₁.heap 212:=by
  obtain ⟨o,vs,f,tf,i,ti,bb,j,tj,ho,h1,h2,h3,_⟩:=jb (List.cons.inj e5).1 (by decide)
  exact ⟨216,o,vs,k _ _ ho,h1,h2,h3⟩
 have c2:isCodeTable s₁.heap 63:=by
  obtain ⟨o,vs,f,tf,i,ti,bb,j,tj,ho,h1,h2,h3,_⟩:=jb (List.cons.inj (List.cons.inj e5).2).1 (by decide)
  exact ⟨67,o,vs,k _ _ ho,h1,h2,h3⟩
 obtain ⟨o1,g1,x1⟩:=r.at_ .h
 obtain ⟨o2,g2,x2⟩:=r.at_ (.t .h)
 have p1:∃ ps,o1=tabObj ps:=by
  unfold Lx.tab at x1
  induction x1 using Ch.On.eTab with
  | tab _ _=>exact ⟨_,rfl⟩
 have p2:∃ ps,o2=tabObj ps:=by
  induction x2 using Ch.On.eTabG with
  | tabG _=>exact ⟨_,rfl⟩
 obtain ⟨ps1,rfl⟩:=p1
 obtain ⟨ps2,rfl⟩:=p2
 have rest:∀ b o,b≠212->b≠63->s₁.heap.get? b=some o->s'.heap.get? b=some o:=fun b o n1 n2 e=>r.zin _ _ (hz _ _ (by refine rP (z _) (rP (aX n1) (rP (aX n2) ?_)); exact e))
 refine ⟨fun b o e=>?_,fun b o e=>?_⟩
 ·by_cases q1:b=212
  ·subst q1
   rw [t212] at e; cases e
   exact .inr (.inl ⟨c1,rfl,#[],ps1,rfl,by refine rP g1 ?_; simp⟩)
  ·by_cases q2:b=63
   ·subst q2
    rw [t63] at e; cases e
    exact .inr (.inl ⟨c2,rfl,#[],ps2,rfl,by refine rP g2 ?_; simp⟩)
   ·exact .inl (rest b o q1 q2 e)
 ·by_cases q1:b=212
  ·subst q1; exact ⟨_,g1⟩
  ·by_cases q2:b=63
   ·subst q2; exact ⟨_,g2⟩
   ·exact ⟨o,rest b o q1 q2 e⟩
end
noncomputable def wI (w:World) (Z:HP) (v:Value):WData->Prop
 | .int n=>AV w Z v (.int n)
 | _=>True
theorem wI_of {w:World}{P:Params}{h:Heap}{Z:HP}{v:Value}{d:WData} (a:Well P h v d):wI w Z v d:=by
 cases a with
 | int=>exact .int
 | _=>trivial
theorem avsWell {w:World}{P:Params}{h:Heap}{Z:HP}{ns:List Int}:∀ {vs:List Value},WellAll P h vs (ns.map .int)->AVs w Z vs (ns.map .int):=by
 induction ns with
 | nil=>intro vs x; cases x; exact .nil
 | cons n ns ih=>
  intro vs x
  obtain ⟨v,vs',rfl,a,b⟩:=wellAll_cons_inv x
  exact .cons (wI_of a:wI w Z v (.int n)) (ih b)
end
section
theorem said0:PySem.W.OpenLaw.wellSaid PySem.Challenge.rw_xh0016_01=true:=by
 delta OpenLaw.wellSaid
 repeat' (with_reducible apply look_both)
 all_goals (try delta OpenRow.wellSaid OpenRow.partSaid looksOpen)
 repeat' (with_reducible apply look_both)
 all_goals decide +kernel
theorem leftP:LeftO PySem.Challenge.rw_xh0016_01.row.prog vw.1 ["_Accumulator"] XtM YfM (fun u_=>YaM) 3524:=by
 have e:PySem.Challenge.rw_xh0016_01.row.prog=pc.1:=pc.2.symm
 rw [e]; exact leftM
theorem mainHolds:PySem.Challenge.rw_xh0016_01.Holds:=by
 refine holds_law said0 fun said=>?_
 refine holds_openX (q:=vw.1) (loose:=["_Accumulator"]) (Xt:=XtM) (XP:=fun mg u_=>kD mg=true) (N:=3524) leftP (fun s e=>(Bool.and_eq_true_iff.mp e).1) (fun mg h h' x u_=>x) (by rfl) (by rfl) (by rfl) (fun s e=>recFacts_of (Bool.and_eq_true_iff.mp e).2) (by rfl) said (by decide +kernel) ⟨rfl,rfl,rfl,rfl,rfl,by decide +kernel⟩ ?hw ?hc
 case hw=>w_witness2
 case hc=>
  intro w s0 s₁ mg mb G y fa o pm cd doc dV kV ho hd hcd hD hmg hg args vals as L hpre hlay hrd hwl hlo
  have T:=G.T
  have k:=L.keeps
  have hN:∀ x a,classAt s0.heap x=some a->mg x=some (.ref a):=fun x a e=>(G.cls x a).mp e
  obtain ⟨B,hs,hv⟩:=mkBui (w:=w) (s0:=s0) (s₁:=s₁) G.X T.builtins
  obtain ⟨ok,hbt⟩:=mkOk (w:=w) y k T
  obtain ⟨Lx,eT,_⟩:=mkLx y k hN (hbt 212 (.inr rfl))
  obtain ⟨P,eP⟩:=mkAc y k hN (hbt 63 (.inl rfl)) hs
  obtain ⟨Tc⟩:=mkTc (w:=w) (mb:=mb) y k hN
  obtain ⟨N⟩:=mkNt (w:=w) (mb:=mb) y k hN
  let W:Lw (mkC w s0 s₁ mg mb):=⟨Lx,P,Tc,N,dD y k hN (j:=10) (i:=4) rfl (by decide) rfl rfl,dD y k hN (j:=12) (i:=6) rfl (by decide) rfl rfl,dD y k hN (j:=14) (i:=8) rfl (by decide) rfl rfl,dD y k hN (j:=15) (i:=9) rfl (by decide) rfl rfl,dD y k hN (j:=17) (i:=11) rfl (by decide) rfl rfl,
   dD y k hN (j:=18) (i:=12) rfl (by decide) rfl rfl,dD y k hN (j:=19) (i:=13) rfl (by decide) rfl rfl,dD y k hN (j:=20) (i:=14) rfl (by decide) rfl rfl,dD y k hN (j:=21) (i:=15) rfl (by decide) rfl rfl,dD y k hN (j:=22) (i:=16) rfl (by decide) rfl rfl⟩
  have Gg:Gn (mkC w s0 s₁ mg mb):=⟨cmOf G.X,hv,dD y k hN (j:=0) (i:=0) rfl (by decide) rfl rfl,dD y k hN (j:=13) (i:=7) rfl (by decide) rfl rfl⟩
  obtain ⟨fd,F,_⟩:=mB (w:=w) (mg:=mg) (mb:=mb) y k (p:=(t28.1,279)) (ay (i:=23) rfl) (by decide)
  have hfa:fa=279:=by
   have h:=dz y k hN (i:=20) rfl rfl
   have h2:=hmg.symm.trans h
   cases h2; rfl
  subst hfa
  obtain ⟨hsh,hpr⟩:=pre_splitW hpre
  obtain ⟨d0,r0,rfl,hd0,hr0⟩:=hasAllW_cons hsh
  obtain rfl:=hasAllW_nil hr0
  obtain ⟨xs,rfl,hxs⟩:=hasW_list hd0
  obtain ⟨ns,rfl⟩:=items_int hxs
  have hlen:=pre63 hpr
  cases hwl with
  | cons hw1 hw2=>
   cases hw2
   cases hw1 with
   | @list a vs _ hga hvs=>
    obtain ⟨t63,t212⟩:=tabs y k
    have n63:a≠63:=fun q=>by subst q; rw [t63] at hga; cases hga
    have n212:a≠212:=fun q=>by subst q; rw [t212] at hga; cases hga
    have hz0:(mkC w s0 s₁ mg mb).H0.get? a=some (ci vs 0):=by
     refine (?_:(less s₁.heap 63 212).get? a=_)
     refine rP bV (rP (aX n212) (rP (aX n63) ?_)); exact hga
    have r:=mkR (w:=w) (mg:=mg) (mb:=mb) (L:=Lx) y k L.gens
    have cc:=wlaw (c:=mkC w s0 s₁ mg mb) (A:=callerA) (led:=[(212,Lx.tab),(63,.tabG)]) (Q:=fun d l=>d = .bool true/\l=[(212,Lx.tab),(63,.tabG)]) rfl ok B W Gg F ⟨rfl,by decide,by decide⟩ rfl ns (by exact nD hlen rfl) (by refine rP (show W.L.T=212 from eT) ?_; exact .h) (by refine rP (show W.P.T=63 from eP) ?_; exact .t .h) ⟨rfl,rfl⟩
    refine ac (Cl.of cc _ s₁ _ _ r .val (.cons (.lst hz0 (avsWell hvs)) .nil)) (fun v s' hv'=>?_) (fun u_ u_ f=>f.elim)
    obtain ⟨Z',led',d,hz,r',av,rfl,rfl⟩:=hv'
    cases av using AV.eBool
    exact ⟨.inl ⟨_,_,[],rfl,fun cls=>rfl,ReadsW.bool true,by wrow_post,fun u_=>⟨List.nodup_nil,fun u_ hm=>nomatch hm⟩⟩,oldK y k hz r',r'.os,r'.gens.1⟩
end
end Mine.Internal
end
theorem PySem.Challenge.cw_xh0016_01_holds : PySem.Challenge.rw_xh0016_01.Holds :=
  Mine.Internal.mainHolds
