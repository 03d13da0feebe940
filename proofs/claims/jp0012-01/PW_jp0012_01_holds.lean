import PyProof.Rows.All
import PyProof.ExcBaseAll.Exception
import KE.KEqDict
import KE.KSortKey
import KE.KOpsOwn
import KE.KSortAsk
import KE.KTryMore
import Wide.FinOn
import OpenK.AllK
import Wide.All
import Lean
import PySem.Challenge.RW_jp0012_01
set_option Elab.async false
set_option tactic.hygienic false
set_option maxRecDepth 100000
set_option genInjectivity false
set_option genSizeOf false
set_option linter.all false
set_option backward.match.sparseCases false
open PySem PySem.W PySem.Calls PyProof.Rows
noncomputable section
namespace Mine
noncomputable abbrev pw:=PySem.Challenge.pw_jp0012_01
noncomputable abbrev rw':=PySem.Challenge.rw_jp0012_01
theorem said:rw'.wellSaid=true:=by
 rw [show @OpenLaw.wellSaid=_ from PySem.W.Fast.te9446332074065402090]
 kernel_rfl
section
inductive SV where
 |non
 |tf (s b:Bool)
 |num (s:Bool) (i:Int)
 |str (s:Str)
 |top (v:Value)
 |ref (i:Nat)
 |obj (C:Addr) (d:Nat)
 |frac (q:Rat)
 |tup (xs:List SV)
 |vlist (xs:List SV)
 |vset (led:Bool) (xs:List Int)
 |vinst (C:Addr) (fs:List (Str×SV))
 |rng (a b:Int)
 |iset (xs:List Int)
 |slc (l u:SV)
noncomputable abbrev SV.bool(b:Bool):SV:= .tf false b
noncomputable abbrev SV.sbool(b:Bool):SV:= .tf true b
noncomputable abbrev SV.int(i:Int):SV:= .num false i
noncomputable abbrev SV.sint(i:Int):SV:= .num true i
inductive SO where
 |list (xs:List SV)
 |ns (cls:String) (fs:List (Str×SV))
 |cell (v:Option SV)
 |cellF (v:SV) (o:Obj)
 |inst (fs:List (Str×SV))
 |gen (is:List Nat) (q:List Addr→Obj→Prop)
structure St where
 own:List (Nat×SO)
 nx:Nat
noncomputable def xt(o:Obj)(m:Str→Option Value):Prop:=∃es ep,o.data= .dict es ep∧StrKeys es∧∀name,nsFind es name=m name
noncomputable def CF:Addr:=194
noncomputable abbrev GH:=Addr→Option Obj
noncomputable def zS(led:Bool)(xs:List Int):SetTable:={mask:=7,place:=(xs.map Int.toNat).toArray,dummies:= #[],finger:=0,led:=led,moves:=0,plain:=true}
noncomputable def zc:List Int→List Tok→List (Int×Value)
 |x::xs,t::ts=>(x,.int x t)::zc xs ts
 |_,_=> []
noncomputable def zR(m:Nat):List Int:=(List.range 6).filterMap fun(k:Nat)=>if m/2^k%2=1 then some (Int.ofNat k)else none
noncomputable def xD:List (List Int):=((List.range 64).map zR).filter fun l=>Nat.ble l.length 4
noncomputable def smallL(xs:List Int):Prop:=xs∈xD
noncomputable def SetObj(led:Bool)(xs:List Int)(o:Obj):Prop:=smallL xs∧∃ts ep,ts.length=xs.length∧o={cls:= .type "set",dict:=none,data:= .set (zc xs ts).toArray ep (zS led xs)}
noncomputable def fracM(q:Rat)(t u:Tok)(x:Str):Option Value:=if x=("denominator":Str)then some (.int q.den u)else if x=("numerator":Str)then some (.int q.num t)else none
noncomputable def tupO(vs:Array Value)(k:Nat):Obj:={cls:= .type "tuple",data:= .seq vs k}
noncomputable def wY(c:String)(vs:Array Value):Obj:={cls:= .type c,data:= .fields vs}
structure Y where
 G:GH
 ρ:Nat→Addr
 n:Nat
mutual
noncomputable def SV.pure:SV→Bool
 | .ref _=>false
 | .obj _ _=>false
 | .tup xs=>zt xs
 | .vinst _ fs=>pureF fs
 | .slc l u=>l.pure&&u.pure
 |_=>true
noncomputable def zt:List SV→Bool
 | []=>true
 |x::r=>x.pure&&zt r
noncomputable def pureF:List (Str×SV)→Bool
 | []=>true
 |(_,x)::r=>x.pure&&pureF r
end
noncomputable def e0:Str×Value:=("",.none)
inductive VRel(y:Y):SV→Value→Prop
 |non:VRel y .non .none
 |tf {s b}:VRel y (.tf s b) (.bool b)
 |num {s i t}:VRel y (.num s i) (.int i t)
 |str {s t}:VRel y (.str s) (.str s t)
 |top {v}:VRel y (.top v) v
 |ref {i}:i<y.n→VRel y (.ref i) (.ref (y.ρ i))
 |obj {C d a}:d<y.n→y.G a=some (instObj C (y.ρ d))→VRel y (.obj C d) (.ref a)
 |frac {q a d od t u}:y.G a=some (instObj CF d)→y.G d=some od→xt od (fracM q t u)→VRel y (.frac q) (.ref a)
 |tup' {xs a vs k}:y.G a=some (tupO vs k)→xs.length=vs.size→(∀i x,xs[i]? =some x→VRel y x (vs.toList.getD i .none))→VRel y (.tup xs) (.ref a)
 |vlist' {xs a vs k}:zt xs=true→y.G a=some (listOf vs k)→xs.length=vs.size→(∀i x,xs[i]? =some x→VRel y x (vs.toList.getD i .none))→VRel y (.vlist xs) (.ref a)
 |vset {led xs a o}:y.G a=some o→SetObj led xs o→VRel y (.vset led xs) (.ref a)
 |vinst' {C fs a d od l}:y.G a=some (instObj C d)→y.G d=some od→xt od (fun x=>List.lookup x l)→fs.length=l.length→(∀i p,fs[i]? =some p→p.1=(l.getD i e0).1)→(∀i p,fs[i]? =some p→VRel y p.2 (l.getD i e0).2)→VRel y (.vinst C fs) (.ref a)
 |rng {a b r t u v}:y.G r=some (wY "range" #[.int a t,.int b u,.int 1 v])→VRel y (.rng a b) (.ref r)
 |slc {l u a x z}:y.G a=some (wY "slice" #[x,z,.none])→VRel y l x→VRel y u z→VRel y (.slc l u) (.ref a)
inductive VRels(y:Y):List SV→List Value→Prop
 |nil:VRels y [] []
 |cons {x v xs vs}:VRel y x v→VRels y xs vs→VRels y (x::xs) (v::vs)
inductive FRels(y:Y):List (Str×SV)→List (Str×Value)→Prop
 |nil:FRels y [] []
 |cons {k x v xs vs}:VRel y x v→FRels y xs vs→FRels y ((k,x)::xs) ((k,v)::vs)
theorem zx{a b:Bool}(h:(a&&b)=true):a=true∧b=true:=(Bool.and_eq_true a b).mp h
theorem xk{xs:List SV}{i:Nat}{x:SV}(h:zt xs=true)(e:xs[i]? =some x):x.pure=true:=by
 induction xs generalizing i with
 |nil=>cases e
 |cons y r ih=>
  cases i with
  |zero=>cases e;exact(zx h).1
  |succ i=>exact ih (zx h).2 e
theorem pureF_get{fs:List (Str×SV)}{i:Nat}{p:Str×SV}(h:pureF fs=true)(e:fs[i]? =some p):p.2.pure=true:=by
 induction fs generalizing i with
 |nil=>cases e
 |cons y r ih=>
  cases i with
  |zero=>cases e;exact(zx h).1
  |succ i=>exact ih (zx h).2 e
theorem pureL_app{xs ys:List SV}(h:zt xs=true)(k:zt ys=true):zt (xs++ys)=true:=by
 induction xs with
 |nil=>exact k
 |cons x r ih=>exact(Bool.and_eq_true _ _).mpr ⟨(zx h).1,ih (zx h).2⟩
structure Le(y y':Y):Prop where
 nx:y.n≤y'.n
 rho:∀i,i<y.n→y'.ρ i=y.ρ i
 ext:∀b o,y.G b=some o→y'.G b=some o
theorem Le.refl(y:Y):Le y y:=⟨Nat.le_refl _,fun _ _=>rfl,fun _ _ e=>e⟩
theorem VRel.mv{y y':Y}{x:SV}{v:Value}(q:VRel y x v)(hG:∀b o,y.G b=some o→y'.G b=some o):x.pure=true∨Le y y'→VRel y' x v:=by
 induction q with
 |ref h=>exact fun c=>c.elim (fun c=>nomatch c) fun c=>c.rho _ h▸ .ref (Nat.lt_of_lt_of_le h c.nx)
 |obj h e=>exact fun c=>c.elim (fun c=>nomatch c) fun c=>.obj (Nat.lt_of_lt_of_le h c.nx) (c.rho _ h▸hG _ _ e)
 |tup' e l _ ih=>exact fun c=>.tup' (hG _ _ e) l fun i x h=>ih i x h (c.imp (fun c=>xk c h) id)
 |vlist' p e l _ ih=>exact fun c=>.vlist' p (hG _ _ e) l fun i x h=>ih i x h (.inl (xk p h))
 |vinst' e d n l m _ ih=>exact fun c=>.vinst' (hG _ _ e) (hG _ _ d) n l m fun i x h=>ih i x h (c.imp (fun c=>pureF_get c h) id)
 |slc e _ _ i1 i2=>exact fun c=>.slc (hG _ _ e) (i1 (c.imp (fun c=>(zx c).1) id)) (i2 (c.imp (fun c=>(zx c).2) id))
 |non=>exact fun _=>.non
 |tf=>exact fun _=>.tf
 |num=>exact fun _=>.num
 |str=>exact fun _=>.str
 |top=>exact fun _=>.top
 |frac a b c=>exact fun _=>.frac (hG _ _ a) (hG _ _ b) c
 |vset a b=>exact fun _=>.vset (hG _ _ a) b
 |rng a=>exact fun _=>.rng (hG _ _ a)
theorem VRels.mv{y y':Y}(hG:∀b o,y.G b=some o→y'.G b=some o){xs vs}(q:VRels y xs vs)(c:zt xs=true∨Le y y'):VRels y' xs vs:=by
 induction q with
 |nil=>exact .nil
 |cons a _ ih=>exact .cons (a.mv hG (c.imp (fun c=>(zx c).1) id)) (ih (c.imp (fun c=>(zx c).2) id))
theorem FRels.mv{y y':Y}(hG:∀b o,y.G b=some o→y'.G b=some o){xs vs}(q:FRels y xs vs)(c:pureF xs=true∨Le y y'):FRels y' xs vs:=by
 induction q with
 |nil=>exact .nil
 |cons a _ ih=>exact .cons (a.mv hG (c.imp (fun c=>(zx c).1) id)) (ih (c.imp (fun c=>(zx c).2) id))
section
variable {y y':Y}{G:GH}{ρ ρ':Nat→Addr}{n n':Nat}{x:SV}{v:Value}{xs ys:List SV}{vs us:List Value}{fs:List (Str×SV)}{l:List (Str×Value)}
theorem VRel.refE{i:Nat}{b:Addr}(h:i<y.n)(e:y.ρ i=b):VRel y (.ref i) (.ref b):=e▸ .ref h
theorem VRel.mono(h:Le y y')(q:VRel y x v):VRel y' x v:=q.mv h.ext (.inr h)
theorem VRels.mono(h:Le y y')(q:VRels y xs vs):VRels y' xs vs:=q.mv h.ext (.inr h)
theorem FRels.mono(h:Le y y')(q:FRels y fs l):FRels y' fs l:=q.mv h.ext (.inr h)
theorem VRel.move(h:x.pure=true)(q:VRel ⟨G,ρ,n⟩ x v):VRel ⟨G,ρ',n'⟩ x v:=q.mv (fun _ _ e=>e) (.inl h)
theorem VRels.move(h:zt xs=true)(q:VRels ⟨G,ρ,n⟩ xs vs):VRels ⟨G,ρ',n'⟩ xs vs:=VRels.mv (y:=⟨G,ρ,n⟩) (y':=⟨G,ρ',n'⟩) (fun _ _ e=>e) q (.inl h)
theorem FRels.move(h:pureF fs=true)(q:FRels ⟨G,ρ,n⟩ fs l):FRels ⟨G,ρ',n'⟩ fs l:=FRels.mv (y:=⟨G,ρ,n⟩) (y':=⟨G,ρ',n'⟩) (fun _ _ e=>e) q (.inl h)
theorem VRels.cons_inv(q:VRels y (x::xs) vs):∃v us,vs=v::us∧VRel y x v∧VRels y xs us:=by cases q with|cons a b=>exact⟨_,_,rfl,a,b⟩
theorem VRels.nil_inv(q:VRels y [] vs):vs=[]:=by cases q;rfl
theorem FRels.nil_inv(q:FRels y [] l):l=[]:=by cases q;rfl
theorem VRels.one(q:VRels y [x] vs):∃v,vs=[v]∧VRel y x v:=by
 cases q with|cons a b=>cases b;exact⟨_,rfl,a⟩
theorem VRels.two{z:SV}(q:VRels y [x,z] vs):∃v u,vs=[v,u]∧VRel y x v∧VRel y z u:=by
 cases q with|cons a b=>obtain⟨u,rfl,c⟩:=b.one;exact⟨_,_,rfl,a,c⟩
theorem VRels.three{z t:SV}(q:VRels y [x,z,t] vs):∃v u r,vs=[v,u,r]∧VRel y x v∧VRel y z u∧VRel y t r:=by
 cases q with|cons a b=>obtain⟨u,r,rfl,c,e⟩:=b.two;exact⟨_,_,_,rfl,a,c,e⟩
theorem VRels.length(q:VRels y xs vs):xs.length=vs.length:=by
 induction q with
 |nil=>rfl
 |cons _ _ ih=>exact congrArg (· +1) ih
theorem VRels.append(q:VRels y xs vs)(p:VRels y ys us):VRels y (xs++ys) (vs++us):=by
 induction q with
 |nil=>exact p
 |cons a _ ih=>exact .cons a ih
theorem VRels.get(q:VRels y xs vs):∀i x,xs[i]? =some x→VRel y x (vs.getD i .none):=by
 induction q with
 |nil=>exact fun _ _ e=>nomatch e
 |cons a _ ih=>
  intro i
  cases i with
  |zero=>exact fun _ e=>by cases e;exact a
  |succ i=>exact ih i
theorem VRels.of(l:xs.length=vs.length)(h:∀i x,xs[i]? =some x→VRel y x (vs.getD i .none)):VRels y xs vs:=by
 induction xs generalizing vs with
 |nil=>cases vs with
  |nil=>exact .nil
  |cons _ _=>cases l
 |cons x xs ih=>cases vs with
  |nil=>cases l
  |cons v vs=>exact .cons (h 0 x rfl) (ih (Nat.succ.inj l) fun i=>h (i+1))
theorem FRels.length(q:FRels y fs l):fs.length=l.length:=by
 induction q with
 |nil=>rfl
 |cons _ _ ih=>exact congrArg (· +1) ih
theorem FRels.get(q:FRels y fs l):∀i p,fs[i]? =some p→p.1=(l.getD i e0).1∧VRel y p.2 (l.getD i e0).2:=by
 induction q with
 |nil=>exact fun _ _ e=>nomatch e
 |cons a _ ih=>
  intro i
  cases i with
  |zero=>exact fun _ e=>by cases e;exact⟨rfl,a⟩
  |succ i=>exact ih i
theorem FRels.of(e:fs.length=l.length)(n:∀i p,fs[i]? =some p→p.1=(l.getD i e0).1)(h:∀i p,fs[i]? =some p→VRel y p.2 (l.getD i e0).2):FRels y fs l:=by
 induction fs generalizing l with
 |nil=>cases l with
  |nil=>exact .nil
  |cons _ _=>cases e
 |cons x xs ih=>cases l with
  |nil=>cases e
  |cons v vs=>
   obtain⟨k,x⟩:=x
   obtain⟨k',v⟩:=v
   obtain rfl:k=k':=n 0 _ rfl
   exact .cons (h 0 _ rfl) (ih (Nat.succ.inj e) (fun i=>n (i+1)) fun i=>h (i+1))
theorem VRel.tup{a k}{vs:Array Value}(e:y.G a=some (tupO vs k))(h:VRels y xs vs.toList):VRel y (.tup xs) (.ref a):= .tup' e h.length h.get
theorem VRel.vlist{a k}{vs:Array Value}(p:zt xs=true)(e:y.G a=some (listOf vs k))(h:VRels y xs vs.toList):VRel y (.vlist xs) (.ref a):= .vlist' p e h.length h.get
theorem VRel.vinst{C a d od}(e:y.G a=some (instObj C d))(e2:y.G d=some od)(h:xt od (fun x=>List.lookup x l))(f:FRels y fs l):VRel y (.vinst C fs) (.ref a):= .vinst' e e2 h f.length (fun i p e=>(f.get i p e).1) fun i p e=>(f.get i p e).2
end
inductive SeqI(y:Y)(f:Array Value→Nat→Obj)(xs:List SV):Value→Prop
 |mk {a vs k}:y.G a=some (f vs k)→VRels y xs vs.toList→SeqI y f xs (.ref a)
inductive FracI(y:Y)(q:Rat):Value→Prop
 |mk {a d od t u}:y.G a=some (instObj CF d)→y.G d=some od→xt od (fracM q t u)→FracI y q (.ref a)
inductive SetI(y:Y)(led:Bool)(xs:List Int):Value→Prop
 |mk {a o}:y.G a=some o→SetObj led xs o→SetI y led xs (.ref a)
inductive InstI(y:Y)(C:Addr)(fs:List (Str×SV)):Value→Prop
 |mk {a d od l}:y.G a=some (instObj C d)→y.G d=some od→xt od (fun x=>List.lookup x l)→FRels y fs l→InstI y C fs (.ref a)
inductive ObjI(y:Y)(C:Addr)(d:Nat):Value→Prop
 |mk {a}:d<y.n→y.G a=some (instObj C (y.ρ d))→ObjI y C d (.ref a)
inductive RngI(y:Y)(a b:Int):Value→Prop
 |mk {r t u v}:y.G r=some (wY "range" #[.int a t,.int b u,.int 1 v])→RngI y a b (.ref r)
inductive SlcI(y:Y)(l u:SV):Value→Prop
 |mk {a x z}:y.G a=some (wY "slice" #[x,z,.none])→VRel y l x→VRel y u z→SlcI y l u (.ref a)
noncomputable def VInv(y:Y)(v:Value):SV→Prop
 | .non=>v= .none
 | .tf _ b=>v= .bool b
 | .num _ i=>∃t,v= .int i t
 | .str s=>∃t,v= .str s t
 | .top u=>v=u
 | .ref i=>i<y.n∧v= .ref (y.ρ i)
 | .obj C d=>ObjI y C d v
 | .frac q=>FracI y q v
 | .tup xs=>SeqI y tupO xs v
 | .vlist xs=>zt xs=true∧SeqI y listOf xs v
 | .vset led xs=>SetI y led xs v
 | .vinst C fs=>InstI y C fs v
 | .rng a b=>RngI y a b v
 | .iset _=>False
 | .slc l u=>SlcI y l u v
theorem VRel.inv{y:Y}{x:SV}{v:Value}(q:VRel y x v):VInv y v x:=by
 cases q with
 |non=>exact rfl
 |tf=>exact rfl
 |num=>exact⟨_,rfl⟩
 |str=>exact⟨_,rfl⟩
 |top=>exact rfl
 |ref h=>exact⟨h,rfl⟩
 |obj h e=>exact .mk h e
 |frac a b c=>exact .mk a b c
 |tup' e l h=>exact .mk e (.of l h)
 |vlist' p e l h=>exact⟨p,.mk e (.of l h)⟩
 |vset a b=>exact .mk a b
 |vinst' a b c d n h=>exact .mk a b c (.of d n h)
 |rng a=>exact .mk a
 |slc a b c=>exact .mk a b c
end
structure GS(s s':Shared):Prop where
 os:s'.os=s.os
 gens:∀(g:Nat) (gs:GenState),s.gens[g]? =some gs→s'.gens[g]? =some gs
 bare:(∀y∈s.gens,y.bare=true)→∀y∈s'.gens,y.bare=true
theorem GS.refl(s:Shared):GS s s:=⟨rfl,fun _ _ e=>e,fun x=>x⟩
theorem GS.same{s s':Shared}(o:s'.os=s.os)(g:s'.gens=s.gens):GS s s':=⟨o,fun _ _ e=>g▸e,fun x=>g▸x⟩
theorem GS.heap{s:Shared}{h:Heap}:GS s {s with heap:=h}:=⟨rfl,fun _ _ e=>e,fun x=>x⟩
theorem GS.trans{a b c:Shared}(x:GS a b)(y:GS b c):GS a c:=⟨y.os.trans x.os,fun g gs e=>y.gens g gs (x.gens g gs e),fun e=>y.bare (x.bare e)⟩
structure Z where
 G:GH
 ρ:Nat→Addr
 st:St
 s:Shared
noncomputable abbrev Z.y(z:Z):Y:=⟨z.G,z.ρ,z.st.nx⟩
noncomputable abbrev Z.hp(z:Z)(h:Heap):Z:={z with s:={z.s with heap:=h}}
noncomputable abbrev Z.sh(z:Z)(s:Shared):Z:={z with s:=s}
noncomputable abbrev Z.to(z:Z)(st:St):Z:={z with st:=st}
noncomputable abbrev Has(st:St)(i:Nat)(so:SO):Prop:=st.own.lookup i=some so
noncomputable abbrev Z.At(z:Z)(b:Addr)(o:Obj):Prop:=z.s.heap.get? b=some o
noncomputable abbrev Z.new(z:Z):Addr:=z.s.heap.objs.size
noncomputable abbrev Z.Ow(z:Z)(b:Addr):Prop:=∀i so,Has z.st i so→z.ρ i≠b
noncomputable def bases:List Addr:=[25,32,40]
noncomputable abbrev Z.Out(z:Z)(b:Addr):Prop:=z.Ow b∧b∉bases
noncomputable def emptyD:Obj:={cls:= .type "dict",data:= .dict #[]}
inductive EntL:List DictEntry→List (Str×Value)→Prop
 |nil:EntL [] []
 |cons {h t x v es l}:EntL es l→EntL (⟨h,.str x t,v⟩::es) ((x,v)::l)
noncomputable def FSub(y:Y)(fs:List (Str×SV))(l:List (Str×Value)):Prop:=∀x sv,List.lookup x fs=some sv→∃v,List.lookup x l=some v∧VRel y sv v
structure NRel(y:Y)(c:String)(fs:List (Str×SV))(l:List (Str×Value)):Prop where
 sub:FSub y fs l
 ex:c="part"∨FRels y fs l
theorem FRels.lookup{fs:List (Str×SV)}{l:List (Str×Value)}(h:FRels y fs l)(x:Str){sv:SV}(e:fs.lookup x=some sv):∃v,l.lookup x=some v∧VRel y sv v:=by
 induction h with
 |nil=>cases e
 | @cons k _ _ _ _ a _ ih=>
  rw [List.lookup_cons]at e⊢
  cases c:x==k with
  |true=>rw [c]at e;cases e;exact⟨_,rfl,a⟩
  |false=>rw [c]at e;exact ih e
theorem FRels.n{y:Y}{c:String}{fs l}(h:FRels y fs l):NRel y c fs l:=⟨fun x _ e=>h.lookup x e,.inr h⟩
theorem NRel.mono{y y':Y}{c:String}{fs l}(L:Le y y')(h:NRel y c fs l):NRel y' c fs l:=⟨fun x sv e=>let⟨v,e,q⟩:=h.sub x sv e;⟨v,e,q.mono L⟩,h.ex.imp id (·.mono L)⟩
noncomputable def ORel(y:Y)(so:SO)(o:Obj):Prop:=match so with
 | .list xs=>∃vs k,o=listOf vs k∧VRels y xs vs.toList
 | .ns c fs=>∃l,xt o (fun x=>List.lookup x l)∧NRel y c fs l
 | .cell x=>∃u,o.data= .cell u∧∀v,x=some v→∃w,u=some w∧VRel y v w
 | .cellF v p=>o=p∧∃w,o.data= .cell (some w)∧VRel y v w
 | .inst fs=>∃es l k,o=dictOf es k∧EntL es l∧FRels y fs l
 | .gen is q=>(∀i∈is,i<y.n)∧q (is.map y.ρ) o
theorem ORel.list{y xs vs k}(h:VRels y xs vs.toList):ORel y (.list xs) (listOf vs k):=⟨_,_,rfl,h⟩
theorem ORel.ns{y c fs l o}(n:xt o (fun x=>List.lookup x l))(h:NRel y c fs l):ORel y (.ns c fs) o:=⟨_,n,h⟩
theorem ORel.cellN{y o}(h:o.data= .cell none):ORel y (.cell none) o:=⟨_,h,fun _ q=>nomatch q⟩
theorem ORel.cellS{y o x v}(h:o.data= .cell (some v))(q:VRel y x v):ORel y (.cell (some x)) o:=⟨_,h,fun _ e=>⟨_,rfl,Option.some.inj e▸q⟩⟩
theorem ORel.inst{y fs l es k}(a:EntL es l)(b:FRels y fs l):ORel y (.inst fs) (dictOf es k):=⟨_,_,_,rfl,a,b⟩
theorem ORel.gen{y is o}{q:List Addr→Obj→Prop}(a:∀i∈is,i<y.n)(b:q (is.map y.ρ) o):ORel y (.gen is q) o:=⟨a,b⟩
theorem ORel.mono{y y':Y}(c:Le y y'){so o}(q:ORel y so o):ORel y' so o:=by
 induction so with
 |list=>exact let⟨vs,k,e,a⟩:=q;⟨vs,k,e,a.mono c⟩
 |ns=>exact let⟨l,n,a⟩:=q;⟨l,n,a.mono c⟩
 |cell=>exact let⟨u,e,a⟩:=q;⟨u,e,fun v h=>let⟨w,i,b⟩:=a v h;⟨w,i,b.mono c⟩⟩
 |cellF=>exact let⟨e,w,i,b⟩:=q;⟨e,w,i,b.mono c⟩
 |inst=>exact let⟨es,l,k,e,n,a⟩:=q;⟨es,l,k,e,n,a.mono c⟩
 |gen is q0=>exact⟨fun i hi=>Nat.lt_of_lt_of_le (q.1 i hi) c.nx,List.map_congr_left (fun i hi=>c.rho i (q.1 i hi))▸q.2⟩
inductive TabO:Obj→Prop
 |mk {ps:Array Value}:TriplesOk ps.toList→TabO {cls:= .none,data:= .fields ps}
structure Tab(z:Z)(b:Addr)(o:Obj):Prop where
 at':z.At b o
 tab:TabO o
 gn:z.G b=none
 ow:z.Ow b
structure Own(z:Z)(i:Nat)(so:SO)(o:Obj):Prop where
 lt:i<z.st.nx
 gn:z.G (z.ρ i)=none
 hp:z.At (z.ρ i) o
 rel:ORel z.y so o
theorem Own.of{z:Z}{i so o a}(e:z.ρ i=a)(h1:i<z.st.nx)(h2:z.G a=none)(h3:z.At a o)(h4:ORel z.y so o):Own z i so o:=by
 subst e;exact⟨h1,h2,h3,h4⟩
structure Rep(z:Z):Prop where
 sub:∀b o,z.G b=some o→z.At b o
 own:∀i so,Has z.st i so→∃o,Own z i so o
 inj:∀i j so so',Has z.st i so→Has z.st j so'→z.ρ i=z.ρ j→i=j
 tab:∀b∈bases,∃o,Tab z b o
structure Step(z z':Z):Prop where
 rep:Rep z'
 le:Le z.y z'.y
 out:∀b o,z.At b o→z.Out b→z'.At b o∧z'.Out b∧z'.G b=z.G b
 own:∀i so,Has z.st i so→(∃o,z.At (z.ρ i) o)∧∃o,z'.At (z.ρ i) o
 gs:GS z.s z'.s
section
variable {z z' z'':Z}{b a:Addr}{o o':Obj}{i:Nat}{so so':SO}
theorem zu{α:Type}{x:Option α}{o:α}(a:x=none)(b:x=some o):False:=nomatch a.symm.trans b
theorem Rep.live(r:Rep z)(h:Has z.st i so):∃o,z.At (z.ρ i) o:=let⟨o,w⟩:=r.own i so h;⟨o,w.hp⟩
theorem Step.refl(r:Rep z):Step z z:=⟨r,.refl _,fun _ _ e n=>⟨e,n,rfl⟩,fun _ _ e=>⟨r.live e,r.live e⟩,.refl _⟩
theorem Step.alive(S:Step z z')(e:z.At b o):∃o,z'.At b o:=by
 by_cases q:z.Ow b
 ·by_cases m:b∈bases
  ·obtain⟨o,w⟩:=S.rep.tab b m;exact⟨o,w.at'⟩
  ·exact⟨o,(S.out b o e ⟨q,m⟩).1⟩
 ·exact Classical.byContradiction fun n=>q fun i so h e=>n (e▸(S.own i so h).2)
theorem yW{α:Type}{x y:Option α}(h:∀o,x=some o→∃o,y=some o)(e:y=none):x=none:=by
 cases x with
 |none=>rfl
 |some o=>obtain⟨o',h⟩:=h o rfl;exact(zu e h).elim
theorem Step.dead(S:Step z z')(e:z'.s.heap.get? b=none):z.s.heap.get? b=none:=yW (fun _=>S.alive) e
theorem Le.trans{y y' y'':Y}(a:Le y y')(b:Le y' y''):Le y y'':=⟨Nat.le_trans a.nx b.nx,fun i h=>(b.rho i (Nat.lt_of_lt_of_le h a.nx)).trans (a.rho i h),fun x o e=>b.ext x o (a.ext x o e)⟩
theorem Step.trans(a:Step z z')(b:Step z' z''):Step z z'':=
 ⟨b.rep,a.le.trans b.le,fun x o e n=>let⟨p,q,r⟩:=a.out x o e n;let⟨p',q',r'⟩:=b.out x o p q;⟨p',q',r'.trans r⟩,fun i so h=>let⟨l,_,e⟩:=a.own i so h;⟨l,b.alive e⟩,a.gs.trans b.gs⟩
theorem Step.val(S:Step z z'){x v}(q:VRel z.y x v):VRel z'.y x v:=q.mono S.le
theorem Step.vals(S:Step z z'){x v}(q:VRels z.y x v):VRels z'.y x v:=q.mono S.le
theorem Step.fvals(S:Step z z'){x v}(q:FRels z.y x v):FRels z'.y x v:=q.mono S.le
theorem zh(h:Heap):h.get? h.objs.size=none:=by
 cases q:h.get? h.objs.size with
 |none=>rfl
 |some o=>exact absurd (Heap.lt_size q) (Nat.lt_irrefl _)
theorem Rep.aside(r:Rep z)(n:z.s.heap.get? b=none):z.G b=none∧z.Out b:=
 ⟨yW (fun o e=>⟨o,r.sub _ _ e⟩) n,fun _ _ e q=>by subst q;obtain⟨o,h⟩:=r.live e;exact zu n h,fun m=>let⟨_,w⟩:=r.tab b m;zu n w.at'⟩
theorem Tab.to(T:Tab z b o){z':Z}(h:z'.At b o)(g:z'.G b=none)(w:z'.Ow b):∃o,Tab z' b o:=⟨o,h,T.tab,g,w⟩
theorem Step.tabs(S:Step z z'){s:Shared}(h:∀b o,b∈bases→z'.At b o→s.heap.get? b=some o):∀b∈bases,∃o,Tab (z'.sh s) b o:=fun b m=>let⟨_,w⟩:=S.rep.tab b m;w.to (h b _ m w.at') w.gn w.ow
theorem Step.poke(S:Step z z'){s:Shared}(D:List Addr)(hk:∀b o,b∉D→z'.At b o→s.heap.get? b=some o)(hD:∀b∈D,z.s.heap.get? b=none∧z'.G b=none∧z'.Out b)(g:GS z.s s):Step z (z'.sh s):=by
 refine⟨⟨fun b o e=>hk b o (fun q=>zu (hD b q).2.1 e) (S.rep.sub b o e),fun i so h=>let⟨o,w⟩:=S.rep.own i so h;⟨o,w.lt,w.gn,hk _ _ (fun q=>(hD _ q).2.2.1 i so h rfl) w.hp,w.rel⟩,S.rep.inj,S.tabs fun b o m=>hk b o fun q=>(hD b q).2.2.2 m⟩,S.le,fun b o e n=> ?_,fun i so h=> ?_,g⟩
 ·obtain⟨p,q⟩:=S.out b o e n
  exact⟨hk b o (fun m=>zu (hD b m).1 e) p,q⟩
 ·obtain⟨⟨o,l⟩,o',e⟩:=S.own i so h
  exact⟨⟨o,l⟩,o',hk _ _ (fun m=>zu (hD _ m).1 l) e⟩
theorem Rep.grow(r:Rep z){s:Shared}(hk:∀b o,z.At b o→s.heap.get? b=some o)(g:GS z.s s):Step z (z.sh s):=
 (Step.refl r).poke [] (fun b o _=>hk b o) (fun _ q=>nomatch q) g
noncomputable abbrev xm(G:GH)(a:Addr)(o:Obj):GH:=fun b=>if b=a then some o else G b
noncomputable def xM(ρ:Nat→Addr)(n:Nat)(a:Addr):Nat→Addr:=fun j=>if j=n then a else ρ j
theorem xg{ρ:Nat→Addr}{n a i}(h:i<n):xM ρ n a i=ρ i:=if_neg (Nat.ne_of_lt h)
theorem zQ{ρ:Nat→Addr}{n a}:xM ρ n a n=a:=if_pos rfl
theorem setG_ext{G:GH}(n:G a=none):∀b x,G b=some x→xm G a o b=some x:=fun b x e=>(if_neg fun q=>zu n (q▸e)).trans e
noncomputable def St.push(st:St)(so:SO):St:=⟨(st.nx,so)::st.own,st.nx+1⟩
noncomputable def putL(i:Nat)(so:SO):List (Nat×SO)→List (Nat×SO)
 | []=> []
 |(j,x)::r=>match Nat.beq i j with
  |true=>(j,so)::r
  |false=>(j,x)::putL i so r
noncomputable def dropL(i:Nat):List (Nat×SO)→List (Nat×SO)
 | []=> []
 |(j,x)::r=>match Nat.beq i j with
  |true=>dropL i r
  |false=>(j,x)::dropL i r
noncomputable def St.put(st:St)(i:Nat)(so:SO):St:=⟨putL i so st.own,st.nx⟩
noncomputable def St.drop(st:St)(i:Nat):St:=⟨dropL i st.own,st.nx⟩
theorem nbeq(a b:Nat):Nat.beq a b=decide (a=b):=BT.beq_eq a b
theorem zn{β:Type}(i j:Nat)(x:β)(r:List (Nat×β)):List.lookup i ((j,x)::r)=if i=j then some x else List.lookup i r:=by
 rw [List.lookup_cons]
 by_cases h:i=j
 ·rw [if_pos h,h,beq_self_eq_true]
 ·rw [if_neg h,beq_false_of_ne h]
theorem put_of{st:St}{j:Nat}{x:SO}(e:Has (st.put i so) j x):(j=i∧x=so)∨(j≠i∧Has st j x):=by
 obtain⟨l,n⟩:=st
 change List.lookup j (putL i so l)=some x at e
 show _∨(j≠i∧List.lookup j l=some x)
 induction l with
 |nil=>cases e
 |cons p r ih=>
  obtain⟨k,y⟩:=p
  rw [zn]
  unfold putL at e
  by_cases c:i=k
  ·subst c
   rw [nbeq,decide_eq_true rfl,zn]at e
   by_cases d:j=i
   ·rw [if_pos d]at e;exact .inl ⟨d,(Option.some.inj e).symm⟩
   ·rw [if_neg d]at e⊢;exact .inr ⟨d,e⟩
  ·rw [nbeq,decide_eq_false c,zn]at e
   by_cases d:j=k
   ·rw [if_pos d]at e⊢;exact .inr ⟨fun q=>c (q.symm.trans d),e⟩
   ·rw [if_neg d]at e⊢;exact ih e
theorem yk{st:St}{j:Nat}{x:SO}(e:Has (st.drop i) j x):j≠i∧Has st j x:=by
 obtain⟨l,n⟩:=st
 change List.lookup j (dropL i l)=some x at e
 show j≠i∧List.lookup j l=some x
 induction l with
 |nil=>cases e
 |cons p r ih=>
  obtain⟨k,y⟩:=p
  rw [zn]
  unfold dropL at e
  by_cases c:i=k
  ·subst c
   rw [nbeq,decide_eq_true rfl]at e
   obtain⟨d,e⟩:=ih e
   exact⟨d,(if_neg d).trans e⟩
  ·rw [nbeq,decide_eq_false c,zn]at e
   by_cases d:j=k
   ·rw [if_pos d]at e⊢;exact⟨fun q=>c (q.symm.trans d),e⟩
   ·rw [if_neg d]at e⊢;exact ih e
theorem push_of{st:St}{j:Nat}{x:SO}(e:Has (st.push so) j x):(j=st.nx∧x=so)∨Has st j x:=by
 change List.lookup j ((st.nx,so)::st.own)=some x at e
 rw [zn]at e
 by_cases d:j=st.nx
 ·rw [if_pos d]at e;exact .inl ⟨d,(Option.some.inj e).symm⟩
 ·rw [if_neg d]at e;exact .inr e
structure Free(z z':Z)(a:Addr):Prop where
 dead:z.s.heap.get? a=none
 gn:z'.G a=none
 out:z'.Out a
theorem Step.free(S:Step z z')(h:z'.s.heap.get? a=none):Free z z' a:=⟨S.dead h,(S.rep.aside h).1,(S.rep.aside h).2⟩
theorem Rep.free(r:Rep z):Free z z z.new:=(Step.refl r).free (zh _)
theorem Step.addG(S:Step z z')(f:Free z z' a)(ho:z'.At a o):Step z {z' with G:=xm z'.G a o}:=by
 have le:Le z'.y ⟨xm z'.G a o,z'.ρ,z'.st.nx⟩:=⟨Nat.le_refl _,fun _ _=>rfl,setG_ext f.gn⟩
 refine⟨⟨fun b x e=> ?_,fun i so h=>let⟨p,w⟩:=S.rep.own i so h;⟨p,w.lt,(if_neg (f.out.1 i so h)).trans w.gn,w.hp,w.rel.mono le⟩,S.rep.inj,fun b m=>let⟨_,w⟩:=S.rep.tab b m;w.to w.at' ((if_neg fun q:b=a=>f.out.2 (q▸m)).trans w.gn) w.ow⟩,S.le.trans le,fun b x e n=> ?_,S.own,S.gs⟩
 ·by_cases q:b=a
  ·subst q;cases (if_pos rfl).symm.trans e;exact ho
  ·exact S.rep.sub b x ((if_neg q).symm.trans e)
 ·obtain⟨p,q,r⟩:=S.out b x e n
  exact⟨p,q,(if_neg fun c=>zu f.dead (c▸e)).trans r⟩
theorem Step.addO(S:Step z z')(f:Free z z' a)(ho:z'.At a o)(hr:ORel z'.y so o):Step z ⟨z'.G,xM z'.ρ z'.st.nx a,z'.st.push so,z'.s⟩:=by
 have le:Le z'.y ⟨z'.G,xM z'.ρ z'.st.nx a,z'.st.nx+1⟩:=⟨Nat.le_succ _,fun i h=>xg h,fun _ _ e=>e⟩
 have old:∀{i so},Has z'.st i so→xM z'.ρ z'.st.nx a i=z'.ρ i:=fun h=>let⟨_,w⟩:=S.rep.own _ _ h;xg w.lt
 have ne:∀{i so},Has z'.st i so→xM z'.ρ z'.st.nx a i≠a:=fun h=>old h▸f.out.1 _ _ h
 have ow:∀{b},b≠a→z'.Ow b→∀i x,Has (z'.st.push so) i x→xM z'.ρ z'.st.nx a i≠b:=fun n q i x h=>by
  rcases push_of h with⟨rfl,_⟩|h
  ·exact fun c=>n (c.symm.trans zQ)
  ·exact fun c=>q i x h ((old h).symm.trans c)
 refine⟨⟨S.rep.sub,fun i x h=> ?_,fun i j x y h1 h2 e=> ?_,fun b m=>let⟨_,w⟩:=S.rep.tab b m;w.to w.at' w.gn (ow (fun q=>f.out.2 (q▸m)) w.ow)⟩,S.le.trans le,fun b x e n=> ?_,S.own,S.gs⟩
 ·rcases push_of h with⟨rfl,rfl⟩|h
  ·exact⟨o,.of zQ (Nat.lt_succ_self _) f.gn ho (hr.mono le)⟩
  ·obtain⟨p,w⟩:=S.rep.own _ _ h
   exact⟨p,.of (old h) (Nat.lt_succ_of_lt w.lt) w.gn w.hp (w.rel.mono le)⟩
 ·rcases push_of h1 with⟨rfl,_⟩|h1<;>rcases push_of h2 with⟨rfl,_⟩|h2
  ·rfl
  ·exact(ne h2 (e.symm.trans zQ)).elim
  ·exact(ne h1 (e.trans zQ)).elim
  ·exact S.rep.inj _ _ _ _ h1 h2 ((old h1).symm.trans (e.trans (old h2)))
 ·obtain⟨p,q,r⟩:=S.out b x e n
  exact⟨p,⟨ow (fun c=>zu f.dead (c▸e)) q.1,q.2⟩,r⟩
theorem Rep.frozen(r:Rep z)(e:z.G b=some o):z.Out b:=⟨fun i so h q=>by
 obtain⟨_,w⟩:=r.own i so h;exact zu w.gn (q▸e),fun m=>let⟨_,w⟩:=r.tab b m;zu w.gn e⟩
theorem Rep.upd(r:Rep z){st:St}{s:Shared}(hx:st.nx=z.st.nx)(was:∀j x,Has st j x→∃y,Has z.st j y)(own:∀j x,Has st j x→∃o,Own ⟨z.G,z.ρ,st,s⟩ j x o)
  (al:∀j y,Has z.st j y→∃o,s.heap.get? (z.ρ j)=some o) (keep:∀b o,z.At b o→z.Ow b→s.heap.get? b=some o) (g:GS z.s s):Step z ⟨z.G,z.ρ,st,s⟩:=
 have ow:∀{b},z.Ow b→∀j y,Has st j y→z.ρ j≠b:=fun n j y k=>let⟨y',k⟩:=was j y k;n j y' k
 ⟨⟨fun b o e=>keep b o (r.sub b o e) (r.frozen e).1,own,fun j k x y h1 h2 e=>let⟨_,a⟩:=was j x h1;let⟨_,b⟩:=was k y h2;r.inj j k _ _ a b e,fun b m=>let⟨_,w⟩:=r.tab b m;w.to (keep b _ w.at' w.ow) w.gn (ow w.ow)⟩,⟨Nat.le_of_eq hx.symm,fun _ _=>rfl,fun _ _ e=>e⟩,fun b o e n=>⟨keep b o e n.1,⟨ow n.1,n.2⟩,rfl⟩,fun j y e=>⟨r.live e,al j y e⟩,g⟩
theorem Rep.turn2(r:Rep z)(h:Has z.st i so){s:Shared}{k:Nat}(hs:∀b o,b≠z.ρ i→b≠z.ρ k→z.At b o→s.heap.get? b=some o)(ho:s.heap.get? (z.ρ i)=some o)(hr:ORel z.y so' o)(hk:k=i∨∀x,Has z.st k x→∃o,s.heap.get? (z.ρ k)=some o∧ORel z.y x o)(g:GS z.s s)(hh:∃x,Has z.st k x):Step z ⟨z.G,z.ρ,z.st.put i so',s⟩:=by
 obtain⟨p,w⟩:=r.own i so h
 have at_:∀j x,j≠i→Has z.st j x→∃o,s.heap.get? (z.ρ j)=some o∧ORel z.y x o:=fun j x n e=>by
  by_cases c:j=k
  ·exact(c▸hk).elim (fun q=>(n q).elim) fun q=>q x e
  ·obtain⟨p,v⟩:=r.own j x e
   obtain⟨x',hh⟩:=hh
   exact⟨p,hs _ _ (fun q=>n (r.inj j i _ _ e h q)) (fun q=>c (r.inj j k _ _ e hh q)) v.hp,v.rel⟩
 refine r.upd rfl (fun j x e=>(put_of e).elim (fun e=>⟨so,e.1▸h⟩) fun e=>⟨x,e.2⟩) (fun j x e=> ?_) (fun j y e=> ?_) (fun b o e n=> ?_) g
 ·rcases put_of e with⟨rfl,rfl⟩|⟨n,e⟩
  ·exact⟨o,w.lt,w.gn,ho,hr⟩
  ·obtain⟨o,a,c⟩:=at_ j x n e
   obtain⟨_,v⟩:=r.own j x e
   exact⟨o,v.lt,v.gn,a,c⟩
 ·by_cases c:j=i
  ·exact⟨o,c▸ho⟩
  ·obtain⟨o,a,_⟩:=at_ j y c e;exact⟨o,a⟩
 ·obtain⟨x,hh⟩:=hh
  exact hs b o (n i so h).symm (n k x hh).symm e
theorem Rep.turn(r:Rep z)(h:Has z.st i so){s:Shared}(hs:∀b,b≠z.ρ i→s.heap.get? b=z.s.heap.get? b)(ho:s.heap.get? (z.ρ i)=some o)(hr:ORel z.y so' o)(g:GS z.s s):Step z ⟨z.G,z.ρ,z.st.put i so',s⟩:=
 r.turn2 h (fun b o n _ e=>(hs b n).trans e) ho hr (.inl rfl) g ⟨_,h⟩
theorem Rep.forget(r:Rep z)(i:Nat):Step z (z.to (z.st.drop i)):=
 ⟨⟨r.sub,fun j x e=>let⟨o,w⟩:=r.own j x (yk e).2;⟨o,w.1,w.2,w.3,w.4⟩,fun j k x y h1 h2=>r.inj j k x y (yk h1).2 (yk h2).2,fun b m=>let⟨_,w⟩:=r.tab b m;w.to w.at' w.gn fun j y h=>w.ow j y (yk h).2⟩,.refl _,fun _ _ e n=>⟨e,⟨fun j y h=>n.1 j y (yk h).2,n.2⟩,rfl⟩,fun _ _ e=>⟨r.live e,r.live e⟩,.refl _⟩
theorem Rep.freeze(r:Rep z)(h:Has z.st i so)(ho:z.At (z.ρ i) o):Step z ⟨xm z.G (z.ρ i) o,z.ρ,z.st.drop i,z.s⟩:=by
 obtain⟨p,w⟩:=r.own i so h
 have le:Le z.y ⟨xm z.G (z.ρ i) o,z.ρ,z.st.nx⟩:=⟨Nat.le_refl _,fun _ _=>rfl,setG_ext w.gn⟩
 have F:=r.forget i
 refine⟨⟨fun b x e=> ?_,fun j x e=>let⟨p,v⟩:=F.rep.own j x e;⟨p,v.lt,(if_neg fun c=>(yk e).1 (r.inj _ _ _ _ (yk e).2 h c)).trans v.gn,v.hp,v.rel.mono le⟩,F.rep.inj,fun b m=>let⟨_,v⟩:=F.rep.tab b m;v.to v.at' ((if_neg fun q:b=z.ρ i=>let⟨_,u⟩:=r.tab b m;u.ow i so h q.symm).trans v.gn) v.ow⟩,le,fun b x e n=>⟨e,(F.out b x e n).2.1,if_neg (n.1 i so h).symm⟩,F.own,.refl _⟩
 by_cases q:b=z.ρ i
 ·subst q;cases (if_pos rfl).symm.trans e;exact ho
 ·exact r.sub b x ((if_neg q).symm.trans e)
theorem Rep.pushG(r:Rep z)(o:Obj)(hf:o.isFreed=false):Step z {z.hp (z.s.heap.push o)with G:=xm z.G z.new o}:=
 (r.grow (s:={z.s with heap:=z.s.heap.push o}) (fun _ _ e=>Heap.get?_push_of_some _ e) .heap).addG (z':=z.hp (z.s.heap.push o)) ⟨zh _,r.free.gn,r.free.out⟩ (Heap.get?_push_size _ hf)
theorem Rep.pushO(r:Rep z){so}(hf:o.isFreed=false)(hr:ORel z.y so o):Step z ⟨z.G,xM z.ρ z.st.nx z.new,z.st.push so,{z.s with heap:=z.s.heap.push o}⟩:=
 (r.grow (s:={z.s with heap:=z.s.heap.push o}) (fun _ _ e=>Heap.get?_push_of_some _ e) .heap).addO (z':=z.hp (z.s.heap.push o)) ⟨zh _,r.free.gn,r.free.out⟩ (Heap.get?_push_size _ hf) hr
end
section
variable {z z' z'':Z}{b a:Addr}{o o':Obj}{i:Nat}{so so':SO}{y:Y}
noncomputable def st0:St:=⟨[],4⟩
theorem lookup_mem{β:Type}{i:Nat}{x:β}{l:List (Nat×β)}(h:List.lookup i l=some x):(i,x)∈l:=by
 induction l with
 |nil=>cases h
 |cons p r ih=>
  obtain⟨j,y⟩:=p
  rw [zn]at h
  by_cases c:i=j
  ·rw [if_pos c]at h;cases h;cases c;exact List.mem_cons_self ..
  ·rw [if_neg c]at h;exact List.mem_cons_of_mem _ (ih h)
theorem Rep.inner(r:Rep z)(n:Nat):Rep (z.to ⟨[],n⟩):=
 ⟨r.sub,fun _ _ h=>(nomatch h),fun _ _ _ _ h=>(nomatch h),fun b m=>let⟨_,w⟩:=r.tab b m;w.to w.at' w.gn fun _ _ h=>(nomatch h)⟩
theorem Step.outer(r:Rep z){n:Nat}(S:Step (z.to ⟨[],n⟩) z'):Step z ⟨z'.G,z.ρ,z.st,z'.s⟩:=by
 have le:Le z.y ⟨z'.G,z.ρ,z.st.nx⟩:=⟨Nat.le_refl _,fun _ _=>rfl,S.le.ext⟩
 have own:∀i so,Has z.st i so→∃o,z.At (z.ρ i) o∧z'.At (z.ρ i) o∧Own ⟨z'.G,z.ρ,z.st,z'.s⟩ i so o:=fun i so h=>by
  obtain⟨o,w⟩:=r.own i so h
  obtain⟨p,_,q⟩:=S.out _ o w.hp ⟨fun _ _ h=>(nomatch h),fun m=>let⟨_,v⟩:=r.tab _ m;v.ow i so h rfl⟩
  exact⟨o,w.hp,p,w.lt,q.trans w.gn,p,w.rel.mono le⟩
 exact⟨⟨S.rep.sub,fun i so h=>let⟨o,_,_,w⟩:=own i so h;⟨o,w⟩,r.inj,fun b m=>let⟨_,w⟩:=S.rep.tab b m;let⟨_,v⟩:=r.tab b m;w.to w.at' w.gn v.ow⟩,le,fun b o e n=>let⟨p,_,q⟩:=S.out b o e ⟨fun _ _ h=>(nomatch h),n.2⟩;⟨p,n,q⟩,fun i so h=>let⟨o,a,b,_⟩:=own i so h;⟨⟨o,a⟩,o,b⟩,S.gs⟩
theorem EntL.length{es l}(h:EntL es l):es.length=l.length:=by
 induction h with
 |nil=>rfl
 |cons _ ih=>exact congrArg (· +1) ih
theorem EntL.keys{es l}(h:EntL es l):∀e∈es,∃n t,e.key= .str n t:=by
 induction h with
 |nil=>exact fun _ h=>nomatch h
 |cons _ ih=>exact List.forall_mem_cons.mpr ⟨⟨_,_,rfl⟩,ih⟩
theorem str_beq_comm(x y:Str):(x==y)=(y==x):=Bool.beq_comm
theorem EntL.find{es l}(h:EntL es l)(name:Str):(es.find? fun e=>e.key.isStr name).map (·.val)=l.lookup name:=by
 induction h with
 |nil=>rfl
 | @cons hs t x v es l _ ih=>
  rw [List.find?_cons,List.lookup_cons]
  show Option.map _ (match x==name with|true=>_|false=>_)=_
  rw [str_beq_comm]
  cases name==x with
  |true=>rfl
  |false=>exact ih
theorem EntL.ns{es l}(h:EntL es l)(k:Nat):xt (dictOf es k) (fun x=>List.lookup x l):=by
 refine⟨es.toArray,k,rfl,fun e he=>h.keys e (Array.mem_toList_iff.mpr he),fun name=> ?_⟩
 unfold nsFind findBy
 rw [List.find?_toArray]
 exact h.find name
theorem FRels.lookup_none{fs:List (Str×SV)}{l:List (Str×Value)}(h:FRels y fs l)(x:Str)(e:fs.lookup x=none):l.lookup x=none:=by
 induction h with
 |nil=>rfl
 | @cons k _ _ _ _ a _ ih=>
  rw [List.lookup_cons]at e⊢
  cases c:x==k with
  |true=>rw [c]at e;cases e
  |false=>rw [c]at e;exact ih e
theorem Rep.ns_of(r:Rep z){c:String}{fs:List (Str×SV)}(e:Has z.st i (.ns c fs)):∃l,z.s.heap.Ns (z.ρ i) (fun x=>List.lookup x l)∧NRel z.y c fs l:=
 let⟨o,w⟩:=r.own i _ e;let⟨l,⟨es,ep,h⟩,f⟩:=w.rel;⟨l,⟨o,es,ep,w.hp,h⟩,f⟩
noncomputable def cellV:SO→Option (Option SV)
 | .cell v=>some v
 | .cellF v _=>some (some v)
 |_=>none
theorem Rep.cell_of(r:Rep z){x:Option SV}(e:Has z.st i so)(c:cellV so=some x):∃v,z.s.heap.IsCell (z.ρ i) v∧∀y,x=some y→∃u,v=some u∧VRel z.y y u:=by
 obtain⟨o,w⟩:=r.own i _ e
 have q:=w.rel
 induction so with
 |cell v=>cases c;exact let⟨u,e,a⟩:=q;⟨u,⟨o,w.hp,e⟩,a⟩
 |cellF v p=>cases c;exact let⟨_,u,e,a⟩:=q;⟨some u,⟨o,w.hp,e⟩,fun y q=>⟨u,rfl,Option.some.inj q▸a⟩⟩
 |_=>exact(zu rfl c).elim
theorem Rep.list_of(r:Rep z){xs:List SV}(e:Has z.st i (.list xs)):∃vs k,z.At (z.ρ i) (listOf vs k)∧VRels z.y xs vs.toList:=
 let⟨_,w⟩:=r.own i _ e;let⟨vs,k,e,h⟩:=w.rel;⟨vs,k,e▸w.hp,h⟩
noncomputable def nsF(own:List (Nat×SO)):List (Nat×SO)→Option Nat
 | []=>none
 |(i,_)::r=>match own.lookup i with
  |some (.ns _ _)=>some i
  |_=>nsF own r
noncomputable def nsIx(st:St):Option Nat:=nsF st.own st.own
theorem nsIx_of{st:St}(h:(nsIx st).isSome=true):∃i c fs,Has st i (.ns c fs):=by
 have:∀l,(nsF st.own l).isSome=true→∃i c fs,Has st i (.ns c fs):=fun l=>by
  induction l with
  |nil=>exact fun h=>(Bool.false_ne_true h).elim
  |cons p r ih=>
   intro h
   unfold nsF at h
   cases e:st.own.lookup p.1 with
   |none=>rw [e]at h;exact ih h
   |some so=>cases so with
    |ns c fs=>exact⟨p.1,c,fs,e⟩
    |_=>rw [e]at h;exact ih h
 exact this _ h
noncomputable def wb:Heap:={objs:= #[]}
theorem wc(b:Addr):wb.get? b=none:=by
 cases q:wb.get? b with
 |none=>rfl
 |some o=>exact absurd (Heap.lt_size q) (Nat.not_lt_zero _)
noncomputable def newsOf(h:Heap)(L:Addr):List (Addr×Obj):=(List.range h.objs.size).filterMap fun b=>if b=L then none else(h.get? b).map fun o=>(b,o)
theorem mem_news{h:Heap}{L:Addr}:(b,o)∈newsOf h L↔b≠L∧h.get? b=some o:=by
 unfold newsOf
 rw [List.mem_filterMap]
 constructor
 ·intro ⟨c,_,e⟩
  by_cases q:c=L
  ·rw [if_pos q]at e;cases e
  ·rw [if_neg q]at e
   obtain⟨o',e1,e2⟩:=Option.map_eq_some_iff.mp e
   cases e2;exact⟨q,e1⟩
 ·intro ⟨n,e⟩
  exact⟨b,List.mem_range.mpr (Heap.lt_size e),by rw [if_neg n,e];rfl⟩
structure Fram(z:Z)(L:Addr)(so:SO)(m:Str→Option Value)(news:List (Addr×Obj)):Prop where
 nsr:∀o,xt o m→ORel z.y so o
 F:Fr wb L z.s.heap m
 N:News wb L z.s.heap news
 mem:∀b o,z.At b o→b≠L→(b,o)∈news
 back:∀h',Fr wb L h' m→News wb L h' news→Step z (z.hp h')
theorem Rep.frame(r:Rep z){c:String}{fs:List (Str×SV)}(t:Has z.st i (.ns c fs)):∃m news,Fram z (z.ρ i) (.ns c fs) m news:=by
 obtain⟨o,w⟩:=r.own i _ t
 obtain⟨l,⟨es,ep,x⟩,f⟩:=w.rel
 refine⟨fun x=>List.lookup x l,newsOf z.s.heap (z.ρ i),fun o h=>.ns h f,⟨⟨o,es,ep,w.hp,x⟩,fun b o e=>(zu (wc b) e).elim,Nat.zero_le _⟩,fun p h=> ?_,fun b o e n=>mem_news.mpr ⟨n,e⟩,fun h' F' N'=> ?_⟩
 ·obtain⟨n,e⟩:=mem_news.mp h
  exact⟨e,n,wc _⟩
 ·have kp:∀b o,b≠z.ρ i→z.At b o→h'.get? b=some o:=fun b o n e=>(N' _ (mem_news.mpr ⟨n,e⟩)).1
  obtain⟨o',es',ep',f1,f2⟩:=F'.ns
  have own:∀j so,Has z.st j so→∃o,Own (z.hp h') j so o:=fun j so h=>by
   by_cases q:j=i
   ·subst q
    obtain rfl:SO.ns c fs=so:=Option.some.inj (t.symm.trans h)
    exact⟨o',w.lt,w.gn,f1,.ns ⟨es',ep',f2⟩ f⟩
   ·obtain⟨p,v⟩:=r.own j so h
    exact⟨p,v.lt,v.gn,kp _ _ (fun c=>q (r.inj _ _ _ _ h t c)) v.hp,v.rel⟩
  exact r.upd (st:=z.st) (s:={z.s with heap:=h'}) rfl (fun j x e=>⟨x,e⟩) own (fun j y e=>let⟨o,v⟩:=own j y e;⟨o,v.hp⟩) (fun b o e n=>kp b o (n i _ t).symm e) .heap
end
noncomputable def kE(P:Params)(x:Str)(t:Tok)(v:Value):DictEntry:=⟨PyData.keyHash P x,.str x t,v⟩
noncomputable def fnParts:Stmt→Arguments×List Stmt×Scope
 | .FunctionDef _ a b _ _ _ s _ _ _=>(a,b,s)
 |_=>default
noncomputable def tp(i:Nat):Arguments×List Stmt×Scope:=match pw.main.body[i]? with
 |some s=>fnParts s
 |none=>default
noncomputable def mt(i j:Nat):Arguments×List Stmt×Scope:=match pw.main.body[i]? with
 |some (.ClassDef (body:=b) ..)=>(match b[j]? with
  |some s=>fnParts s
  |none=>default)
 |_=>default
noncomputable def fO(name qual:Str)(p:Arguments×List Stmt×Scope)(cl:List (Str×Addr))(dV kV doc pm:Value)(an:Option Addr)(cdv ct:Value):FuncData:=
 {name,qualname:=qual,params:=p.1,body:= .stmts p.2.1,scope:=p.2.2,globals:=3,closure:=cl,defaults:=dV,kwdefaults:=kV,doc,pyModule:=pm,annotations:=an,code:=cdv,closureTuple:=ct,builtins:=0}
noncomputable def cO(name:Str)(bases mro:List Value)(ns:Addr)(qual:Str)(hd:Bool)(sn:List Str)(sub:List Value)(ab:Bool)(co:Option Bool)(del:Bool):ClassData:=
 {name,bases,mro,ns,qualname:=qual,hasDict:=hd,slotNames:=sn,subclasses:=sub,abstract:=ab,collection:=co,hasDel:=del}
noncomputable def cdE(a r:Nat)(n q:Str)(t ln ac k u:Nat)(f:Bool):Addr×Obj:=(a,⟨.type "code",none,.fields [.str n t,.str q (t+1),.str "/claim/cut.py" (t+2),.int ln 0,.int ac 0,.int 0 0,.int 0 0,.int k 0,.ref r,.bool true,.int 181 0,.ref (r+1),.none,cond f (.ref (r+2)) .none,cond f (.ref (r+3)) .none,.ref (cond f (r+4) (r+2)),.int u 0,.int ln 0,.str "/claim/cut.py" (u+1)].toArray,[].toArray⟩)
noncomputable def fnE(a:Nat)(n q:Str)(p:Arguments×List Stmt×Scope)(d:Value)(m:Str)(t:Nat):Addr×Obj:=(a,⟨.type "function",none,.func (fO n q p [] d .none .none (.str m t) none (.ref (a-1)) .none),[].toArray⟩)
noncomputable def kR(P:Params)(f:String→Value):Nat→List String→List DictEntry
 |_,[]=> []
 |n,x::r=>kE P x n (f x)::kR P f (n+1) r
noncomputable def KH(P:Params):Frag:=[
 (0,⟨(.type "dict"),none,(.dict ([kE P "__name__" 1 (.str "builtins" 160),kE P "__doc__" 2 (.builtin "builtins.__doc__:str#opaque"),kE P "__package__" 3 (.builtin "builtins.__package__:str#opaque"),kE P "__loader__" 4 (.builtin "builtins.__loader__:shared#opaque"),kE P "__spec__" 5 (.builtin "builtins.__spec__#opaque")]++kR P Value.builtin 6 ["__build_class__","__import__","abs","all","any","ascii","bin","breakpoint","callable","chr","compile","delattr","dir","divmod","eval","exec","format","getattr","globals","hasattr","hash","hex","id","input","isinstance","issubclass","iter","aiter","len","locals","max","min","next","anext","oct","ord","pow","print","repr","round","setattr","sorted","sum","vars"]++[kE P "None" 50 .none,kE P "Ellipsis" 51 .ellipsis,kE P "NotImplemented" 52 .notImplemented,kE P "False" 53 (.bool false),kE P "True" 54 (.bool true)]++kR P Value.type 55 ["bool","memoryview","bytearray","bytes","classmethod","complex","dict","enumerate","filter","float","frozenset","property","int","list","map","object","range","reversed","set","slice","staticmethod","str","super","tuple","type","zip"]++[kE P "__debug__" 81 (.bool true)]++kR P Value.type 82 ["BaseException","BaseExceptionGroup","Exception","GeneratorExit","KeyboardInterrupt","SystemExit","ArithmeticError","AssertionError","AttributeError","BufferError","EOFError","ImportError","LookupError","MemoryError","NameError","OSError","ReferenceError","RuntimeError","StopAsyncIteration","StopIteration","SyntaxError","SystemError","TypeError","ValueError","Warning","FloatingPointError","OverflowError","ZeroDivisionError","BytesWarning","DeprecationWarning","EncodingWarning","FutureWarning","ImportWarning","PendingDeprecationWarning","ResourceWarning","RuntimeWarning","SyntaxWarning","UnicodeWarning","UserWarning","BlockingIOError","ChildProcessError","ConnectionError","FileExistsError","FileNotFoundError","InterruptedError","IsADirectoryError","NotADirectoryError","PermissionError","ProcessLookupError","TimeoutError","IndentationError","_IncompleteInputError","IndexError","KeyError","ModuleNotFoundError","NotImplementedError","PythonFinalizationError","RecursionError","UnboundLocalError","UnicodeError","BrokenPipeError","ConnectionAbortedError","ConnectionRefusedError","ConnectionResetError","TabError","UnicodeDecodeError","UnicodeEncodeError","UnicodeTranslateError","ExceptionGroup"]++[kE P "EnvironmentError" 151 (.type "OSError"),kE P "IOError" 152 (.type "OSError"),kE P "open" 153 (.builtin "open"),kE P "quit" 154 (.builtin "builtins.quit#opaque"),kE P "exit" 155 (.builtin "builtins.exit#opaque"),kE P "copyright" 156 (.builtin "builtins.copyright#opaque"),kE P "credits" 157 (.builtin "builtins.credits#opaque"),kE P "license" 158 (.builtin "builtins.license#opaque"),kE P "help" 159 (.builtin "builtins.help#opaque")]).toArray 159),[].toArray⟩),
 (2,⟨.none,none,(.dict [kE P "type.__subclasses__.Exception.0" 867 (.int 501 0),kE P "type.__subclasses__.Exception.n" 868 (.int 1 0)].toArray 2),[].toArray⟩),
 (3,⟨(.type "dict"),none,(.dict [kE P "__name__" 165 (.str "law_jp0012_01" 1119),kE P "__doc__" 166 .none,kE P "__package__" 167 .none,kE P "__loader__" 168 (.builtin "__main__.__loader__#opaque"),kE P "__spec__" 169 .none,kE P "__annotations__" 170 (.ref 6),kE P "__builtins__" 171 (.ref 4),kE P "__file__" 173 (.str "/claim/cut.py" 172),kE P "__cached__" 174 .none,kE P "_wall" 193 (.ref 21),kE P "CandidateSet" 206 (.ref 30),kE P "sorted_committees" 213 (.ref 37),kE P "str_set_of_candidates" 223 (.ref 45),kE P "combinations" 229 (.ref 50),kE P "Fraction" 406 (.ref 194),kE P "total" 415 (.ref 205),kE P "UnknownScoreFunctionError" 446 (.ref 224),kE P "MarginalScoreFct" 485 (.ref 252),kE P "get_marginal_scorefct" 495 (.ref 264),kE P "thiele_score" 509 (.ref 271),kE P "geometric_marginal_score_fct" 517 (.ref 278),kE P "pav_score_fct" 524 (.ref 285),kE P "adams_score_fct" 531 (.ref 292),kE P "slav_score_fct" 538 (.ref 299),kE P "av_score_fct" 545 (.ref 306),kE P "cc_score_fct" 552 (.ref 313),kE P "at_least_ell_fct" 560 (.ref 320),kE P "marginal_thiele_scores_add" 573 (.ref 327),kE P "MAX_NUM_OF_COMMITTEES_DEFAULT" 576 .none,kE P "Rule" 641 (.ref 362),kE P "UnknownRuleIDError" 670 (.ref 385),kE P "UnknownAlgorithm" 700 (.ref 407),kE P "NoAvailableAlgorithm" 730 (.ref 429),kE P "available_algorithms" 735 (.ref 433),kE P "compute_thiele_method" 752 (.ref 441),kE P "_thiele_methods_bruteforce" 769 (.ref 449),kE P "_thiele_methods_branchandbound" 795 (.ref 457),kE P "compute_pav" 808 (.ref 465),kE P "compute_slav" 821 (.ref 473),kE P "_adams_bruteforce" 827 (.ref 478),kE P "compute_adams" 842 (.ref 486),kE P "_seq_thiele_resolute" 848 (.ref 491),kE P "TiesException" 870 (.ref 501),kE P "compute" 882 (.ref 512),kE P "apply_threshold" 894 (.ref 519),kE P "largest_remainder" 900 (.ref 525),kE P "divisor" 906 (.ref 531),kE P "_divzero_fewerseatsthanparties" 919 (.ref 538),kE P "quota" 925 (.ref 544),kE P "Profile" 1070 (.ref 666),kE P "Voter" 1118 (.ref 703),kE P "_law_methods" 1126 (.ref 714),kE P "_law_shares" 1139 (.ref 718),kE P "_law_lets" 1153 (.ref 725),kE P "law" 1159 (.ref 730)].toArray 55),[].toArray⟩),
 (4,⟨(.type "module"),(some 0),.plain,[].toArray⟩),
 cdE 20 15 "_wall" "_wall" 187 1 1 3 191 true,
 fnE 21 "_wall" "_wall" (tp 0) .none "__main__" 164,
 (22,⟨(.type "tuple"),none,(.seq [].toArray 0),[].toArray⟩),
 (23,⟨(.type "tuple"),none,(.seq [(.ref 22),.none].toArray 0),[].toArray⟩),
 cdE 29 24 "CandidateSet" "CandidateSet" 196 5 2 3 204 true,
 fnE 30 "CandidateSet" "CandidateSet" (tp 2) (.ref 23) "abcvoting.misc" 194,
 cdE 36 31 "sorted_committees" "sorted_committees" 207 17 1 3 211 true,
 fnE 37 "sorted_committees" "sorted_committees" (tp 3) .none "abcvoting.misc" 194,
 (38,⟨(.type "tuple"),none,(.seq [.none].toArray 0),[].toArray⟩),
 cdE 44 39 "str_set_of_candidates" "str_set_of_candidates" 214 19 2 3 221 true,
 fnE 45 "str_set_of_candidates" "str_set_of_candidates" (tp 4) (.ref 38) "abcvoting.misc" 194,
 cdE 49 46 "combinations" "combinations" 224 25 2 3 227 false,
 fnE 50 "combinations" "combinations" (tp 5) .none "abcvoting.misc" 194,
 (58,⟨(.type "tuple"),none,(.seq [(.int 0 242),(.int 1 243)].toArray 0),[].toArray⟩),
 cdE 64 59 "__init__" "Fraction.__init__" 244 35 3 3 254 true,
 fnE 65 "__init__" "Fraction.__init__" (mt 6 0) (.ref 58) "abcvoting.misc" 194,
 cdE 71 66 "__bool__" "Fraction.__bool__" 257 61 1 3 261 true,
 fnE 72 "__bool__" "Fraction.__bool__" (mt 6 1) .none "abcvoting.misc" 194,
 cdE 78 73 "floor" "Fraction.floor" 264 64 1 3 268 true,
 fnE 79 "floor" "Fraction.floor" (mt 6 2) .none "abcvoting.misc" 194,
 cdE 85 80 "ceil" "Fraction.ceil" 271 67 1 3 275 true,
 fnE 86 "ceil" "Fraction.ceil" (mt 6 3) .none "abcvoting.misc" 194,
 cdE 92 87 "__str__" "Fraction.__str__" 278 70 1 3 282 true,
 fnE 93 "__str__" "Fraction.__str__" (mt 6 4) .none "abcvoting.misc" 194,
 cdE 99 94 "__neg__" "Fraction.__neg__" 285 75 1 3 289 true,
 fnE 100 "__neg__" "Fraction.__neg__" (mt 6 5) .none "abcvoting.misc" 194,
 cdE 106 101 "__add__" "Fraction.__add__" 292 78 2 3 297 true,
 fnE 107 "__add__" "Fraction.__add__" (mt 6 6) .none "abcvoting.misc" 194,
 cdE 113 108 "__radd__" "Fraction.__radd__" 300 85 2 3 305 true,
 fnE 114 "__radd__" "Fraction.__radd__" (mt 6 7) .none "abcvoting.misc" 194,
 cdE 120 115 "__sub__" "Fraction.__sub__" 308 88 2 3 313 true,
 fnE 121 "__sub__" "Fraction.__sub__" (mt 6 8) .none "abcvoting.misc" 194,
 cdE 127 122 "__rsub__" "Fraction.__rsub__" 316 93 2 3 321 true,
 fnE 128 "__rsub__" "Fraction.__rsub__" (mt 6 9) .none "abcvoting.misc" 194,
 cdE 134 129 "__mul__" "Fraction.__mul__" 324 96 2 3 329 true,
 fnE 135 "__mul__" "Fraction.__mul__" (mt 6 10) .none "abcvoting.misc" 194,
 cdE 141 136 "__rmul__" "Fraction.__rmul__" 332 103 2 3 337 true,
 fnE 142 "__rmul__" "Fraction.__rmul__" (mt 6 11) .none "abcvoting.misc" 194,
 cdE 148 143 "__truediv__" "Fraction.__truediv__" 340 106 2 3 345 true,
 fnE 149 "__truediv__" "Fraction.__truediv__" (mt 6 12) .none "abcvoting.misc" 194,
 cdE 155 150 "__rtruediv__" "Fraction.__rtruediv__" 348 111 2 3 353 true,
 fnE 156 "__rtruediv__" "Fraction.__rtruediv__" (mt 6 13) .none "abcvoting.misc" 194,
 cdE 162 157 "__eq__" "Fraction.__eq__" 356 116 2 3 361 true,
 fnE 163 "__eq__" "Fraction.__eq__" (mt 6 14) .none "abcvoting.misc" 194,
 cdE 169 164 "__lt__" "Fraction.__lt__" 364 123 2 3 369 true,
 fnE 170 "__lt__" "Fraction.__lt__" (mt 6 15) .none "abcvoting.misc" 194,
 cdE 176 171 "__le__" "Fraction.__le__" 372 130 2 3 377 true,
 fnE 177 "__le__" "Fraction.__le__" (mt 6 16) .none "abcvoting.misc" 194,
 cdE 183 178 "__gt__" "Fraction.__gt__" 380 137 2 3 385 true,
 fnE 184 "__gt__" "Fraction.__gt__" (mt 6 17) .none "abcvoting.misc" 194,
 cdE 190 185 "__ge__" "Fraction.__ge__" 388 144 2 3 393 true,
 fnE 191 "__ge__" "Fraction.__ge__" (mt 6 18) .none "abcvoting.misc" 194,
 (192,⟨(.type "tuple"),none,(.seq [(.str "denominator" 396),(.str "numerator" 397)].toArray 0),[].toArray⟩),
 (193,⟨(.type "dict"),none,(.dict [kE P "__module__" 237 (.str "abcvoting.misc" 194),kE P "__firstlineno__" 241 (.int 33 240),kE P "__init__" 256 (.ref 65),kE P "__bool__" 263 (.ref 72),kE P "floor" 270 (.ref 79),kE P "ceil" 277 (.ref 86),kE P "__str__" 284 (.ref 93),kE P "__neg__" 291 (.ref 100),kE P "__add__" 299 (.ref 107),kE P "__radd__" 307 (.ref 114),kE P "__sub__" 315 (.ref 121),kE P "__rsub__" 323 (.ref 128),kE P "__mul__" 331 (.ref 135),kE P "__rmul__" 339 (.ref 142),kE P "__truediv__" 347 (.ref 149),kE P "__rtruediv__" 355 (.ref 156),kE P "__eq__" 363 (.ref 163),kE P "__lt__" 371 (.ref 170),kE P "__le__" 379 (.ref 177),kE P "__gt__" 387 (.ref 184),kE P "__ge__" 395 (.ref 191),kE P "__static_attributes__" 398 (.ref 192),kE P "__dict__" 400 (.ref 195),kE P "__weakref__" 402 (.ref 196),kE P "__doc__" 403 .none,kE P "__hash__" 404 .none].toArray 5),[].toArray⟩),
 (194,⟨(.type "type"),none,(.cls (cO "Fraction" [(.type "object")] [(.ref 194),(.type "object")] 193 "Fraction" true [] [] false none false)),[none,none,(some (.str "Fraction" 230)),(some (.str "Fraction" 238)),(some (.builtin "object.__new__")),(some (.bool true))].toArray⟩),
 (195,⟨(.type "getset_descriptor"),none,(.fields [(.str "__dict__" 399),(.ref 194),(.builtin "function.__dict__"),(.builtin "function.__dict__#set")].toArray),[].toArray⟩),
 (196,⟨(.type "getset_descriptor"),none,(.fields [(.str "__weakref__" 401),(.ref 194),(.builtin "ExceptionGroup.__weakref__"),.none].toArray),[].toArray⟩),
 cdE 204 199 "total" "total" 407 150 1 3 413 true,
 fnE 205 "total" "total" (tp 7) .none "abcvoting.misc" 194,
 (206,⟨(.type "tuple"),none,(.seq [(.type "ValueError")].toArray 0),[].toArray⟩),
 (209,⟨(.type "cell"),none,(.cell (some (.ref 224))),[].toArray⟩),
 (214,⟨(.type "tuple"),none,(.seq [(.ref 209)].toArray 0),[].toArray⟩),
 cdE 220 215 "__init__" "UnknownScoreFunctionError.__init__" 430 158 2 3 437 true,
 (221,⟨(.type "function"),none,(.func (fO "__init__" "UnknownScoreFunctionError.__init__" (mt 9 0) [("__class__",209)] .none .none .none (.str "abcvoting.scores" 416) none (.ref 220) (.ref 214))),[].toArray⟩),
 (222,⟨(.type "tuple"),none,(.seq [].toArray 0),[].toArray⟩),
 (223,⟨(.type "dict"),none,(.dict [kE P "__module__" 425 (.str "abcvoting.scores" 416),kE P "__firstlineno__" 429 (.int 156 428),kE P "__init__" 439 (.ref 221),kE P "__static_attributes__" 440 (.ref 222),kE P "__weakref__" 443 (.ref 225),kE P "__doc__" 444 .none].toArray 4),[].toArray⟩),
 (224,⟨(.type "type"),none,(.cls (cO "UnknownScoreFunctionError" [(.type "ValueError")] [(.ref 224),(.type "ValueError"),(.type "Exception"),(.type "BaseException"),(.type "object")] 223 "UnknownScoreFunctionError" true [] [] false none false)),[(some (.ref 206)),none,(some (.str "UnknownScoreFunctionError" 418)),(some (.str "UnknownScoreFunctionError" 426)),(some (.builtin "ValueError.__new__")),(some (.bool true))].toArray⟩),
 (225,⟨(.type "getset_descriptor"),none,(.fields [(.str "__weakref__" 442),(.ref 224),(.builtin "ExceptionGroup.__weakref__"),.none].toArray),[].toArray⟩),
 (235,⟨(.type "tuple"),none,(.seq [.none].toArray 0),[].toArray⟩),
 cdE 241 236 "__init__" "MarginalScoreFct.__init__" 459 163 3 3 465 true,
 fnE 242 "__init__" "MarginalScoreFct.__init__" (mt 10 0) (.ref 235) "abcvoting.scores" 416,
 cdE 248 243 "__call__" "MarginalScoreFct.__call__" 468 167 2 3 473 true,
 fnE 249 "__call__" "MarginalScoreFct.__call__" (mt 10 1) .none "abcvoting.scores" 416,
 (250,⟨(.type "tuple"),none,(.seq [(.str "name" 476),(.str "param" 477)].toArray 0),[].toArray⟩),
 (251,⟨(.type "dict"),none,(.dict [kE P "__module__" 454 (.str "abcvoting.scores" 416),kE P "__firstlineno__" 458 (.int 161 457),kE P "__init__" 467 (.ref 242),kE P "__call__" 475 (.ref 249),kE P "__static_attributes__" 478 (.ref 250),kE P "__dict__" 480 (.ref 253),kE P "__weakref__" 482 (.ref 254),kE P "__doc__" 483 .none].toArray 4),[].toArray⟩),
 (252,⟨(.type "type"),none,(.cls (cO "MarginalScoreFct" [(.type "object")] [(.ref 252),(.type "object")] 251 "MarginalScoreFct" true [] [] false none false)),[none,none,(some (.str "MarginalScoreFct" 447)),(some (.str "MarginalScoreFct" 455)),(some (.builtin "object.__new__")),(some (.bool true))].toArray⟩),
 (253,⟨(.type "getset_descriptor"),none,(.fields [(.str "__dict__" 479),(.ref 252),(.builtin "function.__dict__"),(.builtin "function.__dict__#set")].toArray),[].toArray⟩),
 (254,⟨(.type "getset_descriptor"),none,(.fields [(.str "__weakref__" 481),(.ref 252),(.builtin "ExceptionGroup.__weakref__"),.none].toArray),[].toArray⟩),
 (257,⟨(.type "tuple"),none,(.seq [.none].toArray 0),[].toArray⟩),
 cdE 263 258 "get_marginal_scorefct" "get_marginal_scorefct" 486 181 2 3 493 true,
 fnE 264 "get_marginal_scorefct" "get_marginal_scorefct" (tp 11) (.ref 257) "abcvoting.scores" 416,
 cdE 270 265 "thiele_score" "thiele_score" 496 199 3 3 507 true,
 fnE 271 "thiele_score" "thiele_score" (tp 12) .none "abcvoting.scores" 416,
 cdE 277 272 "geometric_marginal_score_fct" "geometric_marginal_score_fct" 510 208 2 3 515 true,
 fnE 278 "geometric_marginal_score_fct" "geometric_marginal_score_fct" (tp 13) .none "abcvoting.scores" 416,
 cdE 284 279 "pav_score_fct" "pav_score_fct" 518 212 1 3 522 true,
 fnE 285 "pav_score_fct" "pav_score_fct" (tp 14) .none "abcvoting.scores" 416,
 cdE 291 286 "adams_score_fct" "adams_score_fct" 525 216 1 3 529 true,
 fnE 292 "adams_score_fct" "adams_score_fct" (tp 15) .none "abcvoting.scores" 416,
 cdE 298 293 "slav_score_fct" "slav_score_fct" 532 222 1 3 536 true,
 fnE 299 "slav_score_fct" "slav_score_fct" (tp 16) .none "abcvoting.scores" 416,
 cdE 305 300 "av_score_fct" "av_score_fct" 539 226 1 3 543 true,
 fnE 306 "av_score_fct" "av_score_fct" (tp 17) .none "abcvoting.scores" 416,
 cdE 312 307 "cc_score_fct" "cc_score_fct" 546 230 1 3 550 true,
 fnE 313 "cc_score_fct" "cc_score_fct" (tp 18) .none "abcvoting.scores" 416,
 cdE 319 314 "at_least_ell_fct" "at_least_ell_fct" 553 234 2 3 558 true,
 fnE 320 "at_least_ell_fct" "at_least_ell_fct" (tp 19) .none "abcvoting.scores" 416,
 cdE 326 321 "marginal_thiele_scores_add" "marginal_thiele_scores_add" 561 238 3 3 571 true,
 fnE 327 "marginal_thiele_scores_add" "marginal_thiele_scores_add" (tp 20) .none "abcvoting.scores" 416,
 (335,⟨(.type "tuple"),none,(.seq [(.str "gurobi" 589),(.str "pulp-highs" 590),(.str "pulp-cbc" 591),(.str "branch-and-bound" 592),(.str "brute-force" 593)].toArray 0),[].toArray⟩),
 (336,⟨(.type "tuple"),none,(.seq [(.bool false),(.bool true)].toArray 0),[].toArray⟩),
 (337,⟨(.type "tuple"),none,(.seq [(.bool true),(.bool false)].toArray 0),[].toArray⟩),
 cdE 343 338 "__init__" "Rule.__init__" 597 254 2 3 606 true,
 fnE 344 "__init__" "Rule.__init__" (mt 23 3) .none "abcvoting.abcrules" 574,
 cdE 350 345 "fastest_available_algorithm" "Rule.fastest_available_algorithm" 609 431 1 3 613 true,
 fnE 351 "fastest_available_algorithm" "Rule.fastest_available_algorithm" (mt 23 4) .none "abcvoting.abcrules" 574,
 (352,⟨(.type "tuple"),none,(.seq [.none].toArray 0),[].toArray⟩),
 cdE 358 353 "verify_compute_parameters" "Rule.verify_compute_parameters" 616 436 6 3 625 true,
 fnE 359 "verify_compute_parameters" "Rule.verify_compute_parameters" (mt 23 5) (.ref 352) "abcvoting.abcrules" 574,
 (360,⟨(.type "tuple"),none,(.seq [(.str "algorithms" 628),(.str "available_algorithms" 629),(.str "longname" 630),(.str "resolute_values" 631),(.str "rule_id" 632),(.str "shortname" 633)].toArray 0),[].toArray⟩),
 (361,⟨(.type "dict"),none,(.dict [kE P "__module__" 584 (.str "abcvoting.abcrules" 574),kE P "__firstlineno__" 588 (.int 249 587),kE P "_THIELE_ALGORITHMS" 594 (.ref 335),kE P "_RESOLUTE_VALUES_FOR_OPTIMIZATION_BASED_RULES" 595 (.ref 336),kE P "_RESOLUTE_VALUES_FOR_SEQUENTIAL_RULES" 596 (.ref 337),kE P "__init__" 608 (.ref 344),kE P "fastest_available_algorithm" 615 (.ref 351),kE P "verify_compute_parameters" 627 (.ref 359),kE P "__static_attributes__" 634 (.ref 360),kE P "__dict__" 636 (.ref 363),kE P "__weakref__" 638 (.ref 364),kE P "__doc__" 639 .none].toArray 4),[].toArray⟩),
 (362,⟨(.type "type"),none,(.cls (cO "Rule" [(.type "object")] [(.ref 362),(.type "object")] 361 "Rule" true [] [] false none false)),[none,none,(some (.str "Rule" 577)),(some (.str "Rule" 585)),(some (.builtin "object.__new__")),(some (.bool true))].toArray⟩),
 (363,⟨(.type "getset_descriptor"),none,(.fields [(.str "__dict__" 635),(.ref 362),(.builtin "function.__dict__"),(.builtin "function.__dict__#set")].toArray),[].toArray⟩),
 (364,⟨(.type "getset_descriptor"),none,(.fields [(.str "__weakref__" 637),(.ref 362),(.builtin "ExceptionGroup.__weakref__"),.none].toArray),[].toArray⟩),
 (367,⟨(.type "tuple"),none,(.seq [(.type "ValueError")].toArray 0),[].toArray⟩),
 (370,⟨(.type "cell"),none,(.cell (some (.ref 385))),[].toArray⟩),
 (375,⟨(.type "tuple"),none,(.seq [(.ref 370)].toArray 0),[].toArray⟩),
 cdE 381 376 "__init__" "UnknownRuleIDError.__init__" 654 453 2 3 661 true,
 (382,⟨(.type "function"),none,(.func (fO "__init__" "UnknownRuleIDError.__init__" (mt 24 0) [("__class__",370)] .none .none .none (.str "abcvoting.abcrules" 574) none (.ref 381) (.ref 375))),[].toArray⟩),
 (383,⟨(.type "tuple"),none,(.seq [].toArray 0),[].toArray⟩),
 (384,⟨(.type "dict"),none,(.dict [kE P "__module__" 649 (.str "abcvoting.abcrules" 574),kE P "__firstlineno__" 653 (.int 451 652),kE P "__init__" 663 (.ref 382),kE P "__static_attributes__" 664 (.ref 383),kE P "__weakref__" 667 (.ref 386),kE P "__doc__" 668 .none].toArray 4),[].toArray⟩),
 (385,⟨(.type "type"),none,(.cls (cO "UnknownRuleIDError" [(.type "ValueError")] [(.ref 385),(.type "ValueError"),(.type "Exception"),(.type "BaseException"),(.type "object")] 384 "UnknownRuleIDError" true [] [] false none false)),[(some (.ref 367)),none,(some (.str "UnknownRuleIDError" 642)),(some (.str "UnknownRuleIDError" 650)),(some (.builtin "ValueError.__new__")),(some (.bool true))].toArray⟩),
 (386,⟨(.type "getset_descriptor"),none,(.fields [(.str "__weakref__" 666),(.ref 385),(.builtin "ExceptionGroup.__weakref__"),.none].toArray),[].toArray⟩),
 (389,⟨(.type "tuple"),none,(.seq [(.type "ValueError")].toArray 0),[].toArray⟩),
 (392,⟨(.type "cell"),none,(.cell (some (.ref 407))),[].toArray⟩),
 (397,⟨(.type "tuple"),none,(.seq [(.ref 392)].toArray 0),[].toArray⟩),
 cdE 403 398 "__init__" "UnknownAlgorithm.__init__" 683 458 3 3 691 true,
 (404,⟨(.type "function"),none,(.func (fO "__init__" "UnknownAlgorithm.__init__" (mt 25 0) [("__class__",392)] .none .none .none (.str "abcvoting.abcrules" 574) none (.ref 403) (.ref 397))),[].toArray⟩),
 (405,⟨(.type "tuple"),none,(.seq [].toArray 0),[].toArray⟩),
 (406,⟨(.type "dict"),none,(.dict [kE P "__module__" 678 (.str "abcvoting.abcrules" 574),kE P "__firstlineno__" 682 (.int 456 681),kE P "__init__" 693 (.ref 404),kE P "__static_attributes__" 694 (.ref 405),kE P "__weakref__" 697 (.ref 408),kE P "__doc__" 698 .none].toArray 4),[].toArray⟩),
 (407,⟨(.type "type"),none,(.cls (cO "UnknownAlgorithm" [(.type "ValueError")] [(.ref 407),(.type "ValueError"),(.type "Exception"),(.type "BaseException"),(.type "object")] 406 "UnknownAlgorithm" true [] [] false none false)),[(some (.ref 389)),none,(some (.str "UnknownAlgorithm" 671)),(some (.str "UnknownAlgorithm" 679)),(some (.builtin "ValueError.__new__")),(some (.bool true))].toArray⟩),
 (408,⟨(.type "getset_descriptor"),none,(.fields [(.str "__weakref__" 696),(.ref 407),(.builtin "ExceptionGroup.__weakref__"),.none].toArray),[].toArray⟩),
 (411,⟨(.type "tuple"),none,(.seq [(.type "ValueError")].toArray 0),[].toArray⟩),
 (414,⟨(.type "cell"),none,(.cell (some (.ref 429))),[].toArray⟩),
 (419,⟨(.type "tuple"),none,(.seq [(.ref 414)].toArray 0),[].toArray⟩),
 cdE 425 420 "__init__" "NoAvailableAlgorithm.__init__" 713 463 3 3 721 true,
 (426,⟨(.type "function"),none,(.func (fO "__init__" "NoAvailableAlgorithm.__init__" (mt 26 0) [("__class__",414)] .none .none .none (.str "abcvoting.abcrules" 574) none (.ref 425) (.ref 419))),[].toArray⟩),
 (427,⟨(.type "tuple"),none,(.seq [].toArray 0),[].toArray⟩),
 (428,⟨(.type "dict"),none,(.dict [kE P "__module__" 708 (.str "abcvoting.abcrules" 574),kE P "__firstlineno__" 712 (.int 461 711),kE P "__init__" 723 (.ref 426),kE P "__static_attributes__" 724 (.ref 427),kE P "__weakref__" 727 (.ref 430),kE P "__doc__" 728 .none].toArray 4),[].toArray⟩),
 (429,⟨(.type "type"),none,(.cls (cO "NoAvailableAlgorithm" [(.type "ValueError")] [(.ref 429),(.type "ValueError"),(.type "Exception"),(.type "BaseException"),(.type "object")] 428 "NoAvailableAlgorithm" true [] [] false none false)),[(some (.ref 411)),none,(some (.str "NoAvailableAlgorithm" 701)),(some (.str "NoAvailableAlgorithm" 709)),(some (.builtin "ValueError.__new__")),(some (.bool true))].toArray⟩),
 (430,⟨(.type "getset_descriptor"),none,(.fields [(.str "__weakref__" 726),(.ref 429),(.builtin "ExceptionGroup.__weakref__"),.none].toArray),[].toArray⟩),
 (433,⟨(.type "list"),none,(.seq [(.str "branch-and-bound" 731),(.str "brute-force" 732),(.str "standard" 733),(.str "standard-fractions" 734)].toArray 0),[].toArray⟩),
 (434,⟨(.type "tuple"),none,(.seq [(.str "fastest" 736),(.bool false),.none,(.bool false)].toArray 0),[].toArray⟩),
 cdE 440 435 "compute_thiele_method" "compute_thiele_method" 737 467 7 3 750 true,
 fnE 441 "compute_thiele_method" "compute_thiele_method" (tp 28) (.ref 434) "abcvoting.abcrules" 574,
 (442,⟨(.type "tuple"),none,(.seq [.none].toArray 0),[].toArray⟩),
 cdE 448 443 "_thiele_methods_bruteforce" "_thiele_methods_bruteforce" 753 479 5 3 767 true,
 fnE 449 "_thiele_methods_bruteforce" "_thiele_methods_bruteforce" (tp 29) (.ref 442) "abcvoting.abcrules" 574,
 (450,⟨(.type "tuple"),none,(.seq [.none].toArray 0),[].toArray⟩),
 cdE 456 451 "_thiele_methods_branchandbound" "_thiele_methods_branchandbound" 770 497 5 3 793 true,
 fnE 457 "_thiele_methods_branchandbound" "_thiele_methods_branchandbound" (tp 30) (.ref 450) "abcvoting.abcrules" 574,
 (458,⟨(.type "tuple"),none,(.seq [(.str "fastest" 796),(.bool false),.none,(.bool false)].toArray 0),[].toArray⟩),
 cdE 464 459 "compute_pav" "compute_pav" 797 531 6 3 806 true,
 fnE 465 "compute_pav" "compute_pav" (tp 31) (.ref 458) "abcvoting.abcrules" 574,
 (466,⟨(.type "tuple"),none,(.seq [(.str "fastest" 809),(.bool false),.none,(.bool false)].toArray 0),[].toArray⟩),
 cdE 472 467 "compute_slav" "compute_slav" 810 533 6 3 819 true,
 fnE 473 "compute_slav" "compute_slav" (tp 32) (.ref 466) "abcvoting.abcrules" 574,
 cdE 477 474 "_adams_bruteforce" "_adams_bruteforce" 822 535 4 3 825 false,
 fnE 478 "_adams_bruteforce" "_adams_bruteforce" (tp 33) .none "abcvoting.abcrules" 574,
 (479,⟨(.type "tuple"),none,(.seq [(.str "fastest" 828),(.bool false),.none].toArray 0),[].toArray⟩),
 cdE 485 480 "compute_adams" "compute_adams" 829 560 5 3 840 true,
 fnE 486 "compute_adams" "compute_adams" (tp 34) (.ref 479) "abcvoting.abcrules" 574,
 cdE 490 487 "_seq_thiele_resolute" "_seq_thiele_resolute" 843 571 3 3 846 false,
 fnE 491 "_seq_thiele_resolute" "_seq_thiele_resolute" (tp 35) .none "abcvoting.abcrules" 574,
 (492,⟨(.type "tuple"),none,(.seq [(.type "Exception")].toArray 0),[].toArray⟩),
 (499,⟨(.type "tuple"),none,(.seq [].toArray 0),[].toArray⟩),
 (500,⟨(.type "dict"),none,(.dict [kE P "__module__" 858 (.str "apportionment.methods" 849),kE P "__firstlineno__" 862 (.int 585 861),kE P "__static_attributes__" 863 (.ref 499),kE P "__weakref__" 865 (.ref 502),kE P "__doc__" 866 .none].toArray 3),[].toArray⟩),
 (501,⟨(.type "type"),none,(.cls (cO "TiesException" [(.type "Exception")] [(.ref 501),(.type "Exception"),(.type "BaseException"),(.type "object")] 500 "TiesException" true [] [] false none false)),[(some (.ref 492)),none,(some (.str "TiesException" 851)),(some (.str "TiesException" 859)),(some (.builtin "Exception.__new__")),(some (.bool true))].toArray⟩),
 (502,⟨(.type "getset_descriptor"),none,(.fields [(.str "__weakref__" 864),(.ref 501),(.builtin "ExceptionGroup.__weakref__"),.none].toArray),[].toArray⟩),
 (505,⟨(.type "tuple"),none,(.seq [.none,(.bool true)].toArray 0),[].toArray⟩),
 cdE 511 506 "compute" "compute" 871 587 5 3 880 true,
 fnE 512 "compute" "compute" (tp 38) (.ref 505) "apportionment.methods" 849,
 cdE 518 513 "apply_threshold" "apply_threshold" 883 597 2 3 892 true,
 fnE 519 "apply_threshold" "apply_threshold" (tp 39) .none "apportionment.methods" 849,
 (520,⟨(.type "tuple"),none,(.seq [(.bool true)].toArray 0),[].toArray⟩),
 cdE 524 521 "largest_remainder" "largest_remainder" 895 610 3 3 898 false,
 fnE 525 "largest_remainder" "largest_remainder" (tp 40) (.ref 520) "apportionment.methods" 849,
 (526,⟨(.type "tuple"),none,(.seq [(.bool true)].toArray 0),[].toArray⟩),
 cdE 530 527 "divisor" "divisor" 901 631 4 3 904 false,
 fnE 531 "divisor" "divisor" (tp 41) (.ref 526) "apportionment.methods" 849,
 cdE 537 532 "_divzero_fewerseatsthanparties" "_divzero_fewerseatsthanparties" 907 683 3 3 917 true,
 fnE 538 "_divzero_fewerseatsthanparties" "_divzero_fewerseatsthanparties" (tp 42) .none "apportionment.methods" 849,
 (539,⟨(.type "tuple"),none,(.seq [(.bool true)].toArray 0),[].toArray⟩),
 cdE 543 540 "quota" "quota" 920 696 3 3 923 false,
 fnE 544 "quota" "quota" (tp 43) (.ref 539) "apportionment.methods" 849,
 (552,⟨(.type "tuple"),none,(.seq [.none].toArray 0),[].toArray⟩),
 cdE 556 553 "__init__" "Profile.__init__" 940 716 3 3 943 false,
 fnE 557 "__init__" "Profile.__init__" (mt 45 0) (.ref 552) "abcvoting.preferences" 926,
 cdE 563 558 "num_cand" "Profile.num_cand" 946 727 1 3 950 true,
 fnE 564 "num_cand" "Profile.num_cand" (mt 45 1) .none "abcvoting.preferences" 926,
 (565,⟨(.type "property"),none,(.fields [(.ref 564),.none,.none,.none,(.str "num_cand" 953),(.bool false)].toArray),[].toArray⟩),
 cdE 571 566 "approved_candidates" "Profile.approved_candidates" 954 731 1 3 958 true,
 fnE 572 "approved_candidates" "Profile.approved_candidates" (mt 45 2) .none "abcvoting.preferences" 926,
 cdE 578 573 "__len__" "Profile.__len__" 961 734 1 3 965 true,
 fnE 579 "__len__" "Profile.__len__" (mt 45 3) .none "abcvoting.preferences" 926,
 cdE 585 580 "_unique_voter" "Profile._unique_voter" 968 737 2 3 974 true,
 fnE 586 "_unique_voter" "Profile._unique_voter" (mt 45 4) .none "abcvoting.preferences" 926,
 cdE 592 587 "add_voter" "Profile.add_voter" 977 744 2 3 982 true,
 fnE 593 "add_voter" "Profile.add_voter" (mt 45 5) .none "abcvoting.preferences" 926,
 cdE 599 594 "add_voters" "Profile.add_voters" 985 747 2 3 990 true,
 fnE 600 "add_voters" "Profile.add_voters" (mt 45 6) .none "abcvoting.preferences" 926,
 cdE 606 601 "total_weight" "Profile.total_weight" 993 750 1 3 997 true,
 fnE 607 "total_weight" "Profile.total_weight" (mt 45 7) .none "abcvoting.preferences" 926,
 cdE 613 608 "has_unit_weights" "Profile.has_unit_weights" 1000 753 1 3 1004 true,
 fnE 614 "has_unit_weights" "Profile.has_unit_weights" (mt 45 8) .none "abcvoting.preferences" 926,
 cdE 620 615 "convert_to_unit_weights" "Profile.convert_to_unit_weights" 1007 756 1 3 1011 true,
 fnE 621 "convert_to_unit_weights" "Profile.convert_to_unit_weights" (mt 45 9) .none "abcvoting.preferences" 926,
 cdE 627 622 "convert_to_weighted" "Profile.convert_to_weighted" 1014 759 1 3 1018 true,
 fnE 628 "convert_to_weighted" "Profile.convert_to_weighted" (mt 45 10) .none "abcvoting.preferences" 926,
 cdE 634 629 "__iter__" "Profile.__iter__" 1021 762 1 35 1026 true,
 fnE 635 "__iter__" "Profile.__iter__" (mt 45 11) .none "abcvoting.preferences" 926,
 cdE 641 636 "__getitem__" "Profile.__getitem__" 1029 766 2 3 1034 true,
 fnE 642 "__getitem__" "Profile.__getitem__" (mt 45 12) .none "abcvoting.preferences" 926,
 cdE 648 643 "__setitem__" "Profile.__setitem__" 1037 769 3 3 1043 true,
 fnE 649 "__setitem__" "Profile.__setitem__" (mt 45 13) .none "abcvoting.preferences" 926,
 cdE 655 650 "copy" "Profile.copy" 1046 772 1 3 1050 true,
 fnE 656 "copy" "Profile.copy" (mt 45 14) .none "abcvoting.preferences" 926,
 cdE 662 657 "is_party_list" "Profile.is_party_list" 1053 775 1 3 1057 true,
 fnE 663 "is_party_list" "Profile.is_party_list" (mt 45 15) .none "abcvoting.preferences" 926,
 (664,⟨(.type "tuple"),none,(.seq [(.str "_voters" 1060),(.str "cand_names" 1061),(.str "candidates" 1062)].toArray 0),[].toArray⟩),
 (665,⟨(.type "dict"),none,(.dict [kE P "__module__" 935 (.str "abcvoting.preferences" 926),kE P "__firstlineno__" 939 (.int 714 938),kE P "__init__" 945 (.ref 557),kE P "num_cand" 953 (.ref 565),kE P "approved_candidates" 960 (.ref 572),kE P "__len__" 967 (.ref 579),kE P "_unique_voter" 976 (.ref 586),kE P "add_voter" 984 (.ref 593),kE P "add_voters" 992 (.ref 600),kE P "total_weight" 999 (.ref 607),kE P "has_unit_weights" 1006 (.ref 614),kE P "convert_to_unit_weights" 1013 (.ref 621),kE P "convert_to_weighted" 1020 (.ref 628),kE P "__iter__" 1028 (.ref 635),kE P "__getitem__" 1036 (.ref 642),kE P "__setitem__" 1045 (.ref 649),kE P "copy" 1052 (.ref 656),kE P "is_party_list" 1059 (.ref 663),kE P "__static_attributes__" 1063 (.ref 664),kE P "__dict__" 1065 (.ref 667),kE P "__weakref__" 1067 (.ref 668),kE P "__doc__" 1068 .none].toArray 4),[].toArray⟩),
 (666,⟨(.type "type"),none,(.cls (cO "Profile" [(.type "object")] [(.ref 666),(.type "object")] 665 "Profile" true [] [] false none false)),[none,none,(some (.str "Profile" 928)),(some (.str "Profile" 936)),(some (.builtin "object.__new__")),(some (.bool true))].toArray⟩),
 (667,⟨(.type "getset_descriptor"),none,(.fields [(.str "__dict__" 1064),(.ref 666),(.builtin "function.__dict__"),(.builtin "function.__dict__#set")].toArray),[].toArray⟩),
 (668,⟨(.type "getset_descriptor"),none,(.fields [(.str "__weakref__" 1066),(.ref 666),(.builtin "ExceptionGroup.__weakref__"),.none].toArray),[].toArray⟩),
 (678,⟨(.type "tuple"),none,(.seq [(.int 1 1083),.none].toArray 0),[].toArray⟩),
 cdE 684 679 "__init__" "Voter.__init__" 1084 779 4 3 1091 true,
 fnE 685 "__init__" "Voter.__init__" (mt 46 0) (.ref 678) "abcvoting.preferences" 926,
 cdE 691 686 "__str__" "Voter.__str__" 1094 785 1 3 1098 true,
 fnE 692 "__str__" "Voter.__str__" (mt 46 1) .none "abcvoting.preferences" 926,
 (693,⟨(.type "tuple"),none,(.seq [.none].toArray 0),[].toArray⟩),
 cdE 699 694 "str_with_names" "Voter.str_with_names" 1101 788 2 3 1106 true,
 fnE 700 "str_with_names" "Voter.str_with_names" (mt 46 2) (.ref 693) "abcvoting.preferences" 926,
 (701,⟨(.type "tuple"),none,(.seq [(.str "approved" 1109),(.str "weight" 1110)].toArray 0),[].toArray⟩),
 (702,⟨(.type "dict"),none,(.dict [kE P "__module__" 1078 (.str "abcvoting.preferences" 926),kE P "__firstlineno__" 1082 (.int 777 1081),kE P "__init__" 1093 (.ref 685),kE P "__str__" 1100 (.ref 692),kE P "str_with_names" 1108 (.ref 700),kE P "__static_attributes__" 1111 (.ref 701),kE P "__dict__" 1113 (.ref 704),kE P "__weakref__" 1115 (.ref 705),kE P "__doc__" 1116 .none].toArray 4),[].toArray⟩),
 (703,⟨(.type "type"),none,(.cls (cO "Voter" [(.type "object")] [(.ref 703),(.type "object")] 702 "Voter" true [] [] false none false)),[none,none,(some (.str "Voter" 1071)),(some (.str "Voter" 1079)),(some (.builtin "object.__new__")),(some (.bool true))].toArray⟩),
 (704,⟨(.type "getset_descriptor"),none,(.fields [(.str "__dict__" 1112),(.ref 703),(.builtin "function.__dict__"),(.builtin "function.__dict__#set")].toArray),[].toArray⟩),
 (705,⟨(.type "getset_descriptor"),none,(.fields [(.str "__weakref__" 1114),(.ref 703),(.builtin "ExceptionGroup.__weakref__"),.none].toArray),[].toArray⟩),
 cdE 713 708 "_law_methods" "_law_methods" 1121 791 0 3 1124 true,
 fnE 714 "_law_methods" "_law_methods" (tp 48) .none "law_jp0012_01" 1119,
 (715,⟨(.type "list"),none,(.seq [(.int 12 1127),(.int 6 1128),(.int 4 1129),(.int 3 1130)].toArray 0),[].toArray⟩),
 (716,⟨(.type "list"),none,(.seq [(.int 105 1131),(.int 35 1132),(.int 21 1133),(.int 15 1134)].toArray 0),[].toArray⟩),
 (717,⟨(.type "list"),none,(.seq [(.int 0 1135),(.int 6 1136),(.int 3 1137),(.int 2 1138)].toArray 0),[].toArray⟩),
 (718,⟨(.type "list"),none,(.seq [(.ref 715),(.ref 716),(.ref 717)].toArray 0),[].toArray⟩),
 cdE 724 719 "_law_lets" "_law_lets" 1140 794 3 3 1151 true,
 fnE 725 "_law_lets" "_law_lets" (tp 50) .none "law_jp0012_01" 1119,
 cdE 729 726 "law" "law" 1154 804 1 3 1157 false,
 fnE 730 "law" "law" (tp 51) .none "law_jp0012_01" 1119]
noncomputable def KHas:List Addr:=[0,2,3,4,20,21,22,23,29,30,36,37,38,44,45,49,50,58,64,65,71,72,78,79,85,86,92,93,99,100,106,107,113,114,120,121,127,128,134,135,141,142,148,149,155,156,162,163,169,170,176,177,183,184,190,191,192,193,194,195,196,204,205,206,209,214,220,221,222,223,224,225,235,241,242,248,249,250,251,252,253,254,257,263,264,270,271,277,278,284,285,291,292,298,299,305,306,312,313,319,320,326,327,335,336,337,343,344,350,351,352,358,359,360,361,362,363,364,367,370,375,381,382,383,384,385,386,389,392,397,403,404,405,406,407,408,411,414,419,425,426,427,428,429,430,433,434,440,441,442,448,449,450,456,457,458,464,465,466,472,473,477,478,479,485,486,490,491,492,499,500,501,502,505,511,512,518,519,520,524,525,526,530,531,537,538,539,543,544,552,556,557,563,564,565,571,572,578,579,585,586,592,593,599,600,606,607,613,614,620,621,627,628,634,635,641,642,648,649,655,656,662,663,664,665,666,667,668,678,684,685,691,692,693,699,700,701,702,703,704,705,713,714,715,716,717,718,724,725,729,730]
theorem KHas_eq(P:Params):KHas=(KH P).map (·.1):=by kernel_rfl
noncomputable def hid:List Addr:=[25,32,40]
noncomputable def tab0:Obj:={cls:= .none,data:= .fields #[]}
noncomputable def goG(ok:Nat→Option Value→Thread→Bool)(st:SharedT→Thread→Option (SharedT×Thread))(n₀:Nat)(ann:Option Value):Nat→SharedT→Thread→Option SharedT
 |0,_,_=>none
 |n+1,s,t=>match through t with
  |true=>some s
  |false=>match ok n₀ ann t with
   |false=>none
   |true=>match st s t with
    |some x=>goG ok st n₀ ann n x.1 x.2
    |none=>none
theorem goG_run{p:Program}{w:World}{n₀:Nat}{ann:Option Value}:∀(n:Nat) (s s':SharedT) (t:Thread),
  goG stepOk (stepT (denote treeTable) p w) n₀ ann n s t=some s'→topRun treeTable p w n₀ ann n s.abs t=some s'.abs
 |0,_,_,_,h=>by simp [goG]at h
 |n+1,s,s',t,h=>by
  unfold goG at h
  unfold topRun
  cases ht:through t with
  |true=>rw [ht]at h;simp only at h⊢;rw [Option.some.inj h]
  |false=>
   rw [ht]at h
   cases hk:stepOk n₀ ann t with
   |false=>rw [hk]at h;cases h
   |true=>
    rw [hk]at h
    cases hs:stepT (denote treeTable) p w s t with
    |none=>rw [hs]at h;cases h
    |some x=>
     rw [hs]at h
     rw [stepT_spec (s':=x.1) (t':=x.2) hs]
     exact goG_run n _ _ _ h
noncomputable abbrev qOk:= @PySem.W.Fast.tw6613529449190102663
noncomputable abbrev qStep:= @PySem.W.Fast.tw10156331382660048174
noncomputable abbrev qDenote:= @PySem.W.Fast.tw11892475500146522536
noncomputable abbrev qTable:=PySem.W.Fast.tw14364793385576792824
theorem goG_q(p:Program)(w:World):goG stepOk (stepT (denote treeTable) p w)=goG qOk (qStep (qDenote qTable) p w):=by
 have e1: @stepOk=qOk:=PySem.W.Fast.te6613529449190102663
 have e2: @stepT=qStep:=PySem.W.Fast.te10156331382660048174
 have e3: @denote=qDenote:=PySem.W.Fast.te11892475500146522536
 have e4:treeTable=qTable:=PySem.W.Fast.te14364793385576792824
 rw [e1,e2,e3,e4]
noncomputable def treeOf:Nat→BT→List Obj→BT
 |_,t,[]=>t
 |n,t,o::l=>treeOf (n+1) (t.ins n o) l
noncomputable def Bears(t:BT)(l:List Obj):Prop:=∀i,i<l.length→t.get i=l[i]?
theorem abs_of_bears{t:BT}{l:List Obj}(life:Life)(h:Bears t l):absHeap t l.length life=⟨l.toArray,life⟩:=by
 unfold absHeap BT.list
 refine congrArg (Heap.mk · life) ?_
 congr 1
 apply List.ext_getElem?
 intro i
 rw [List.getElem?_map]
 by_cases hi:i<l.length
 ·rw [List.getElem?_range hi]
  simp only [Option.map_some,h i hi]
  rw [List.getElem?_eq_getElem hi];rfl
 ·rw [List.getElem?_eq_none (by rw [List.length_range];omega),List.getElem?_eq_none (by omega)];rfl
noncomputable def S0 (w:World) (os:OsState):SharedT:=
 ⟨treeOf 0 .nil (boot_heap w.params).objs.toList,(boot_heap w.params).objs.size,(boot_heap w.params).life,#[],boot_drawn,boot_toks,os⟩
theorem bears_of{t:BT}{l:List Obj}(h:(List.range l.length).map t.get=l.map some):Bears t l:=fun i hi=>by
 have:=congrArg (fun x=>x[i]?) h
 simp only [List.getElem?_map,List.getElem?_range hi,Option.map_some]at this
 rw [List.getElem?_eq_getElem hi]at this⊢
 simpa using this
theorem S0_abs(w:World)(os:OsState):(S0 w os).abs=⟨boot_heap w.params,#[],boot_drawn,boot_toks,os⟩:=by
 have hb:Bears (treeOf 0 .nil (boot_heap w.params).objs.toList) (boot_heap w.params).objs.toList:=bears_of (by kernel_rfl)
 have:=abs_of_bears (boot_heap w.params).life hb
 show Shared.mk (absHeap (treeOf 0 .nil (boot_heap w.params).objs.toList) (boot_heap w.params).objs.size (boot_heap w.params).life) #[] boot_drawn boot_toks os=_
 rw [show(boot_heap w.params).objs.size=(boot_heap w.params).objs.toList.length by simp,this]
noncomputable def hchk (p:Program) (w:World) (s:Shared):Bool:=staticsOk (importedModules p.main.body) (boot_heap w.params) s.heap&&namesBound p s.heap&&gensDone s&&laidKept (boot_heap w.params) s.heap
theorem left_of{p q:Program}{loose:List Str}{Xt:Shared→Bool}{α:Type}{Yf:Shared→α}{Ya:World→α}{N m₀:Nat}{ann:Option Value}
  (open_:∀w:World,(fencedOpening treeTable p w N).map (fun s=>(s.heap,s.gens,s.drawn,s.toks))=some (boot_heap w.params,Array.mk [],boot_drawn,boot_toks))
  (size:∀w:World,((boot_heap w.params).isNs mainGlobals,(boot_heap w.params).objs.size,(boot_heap w.params).nsMap mainGlobals "__annotations__")=(true,m₀,ann))
  (run:∀(w:World) (os:OsState),(goG stepOk (stepT (denote treeTable) p w) m₀ ann N (S0 w os) (topStub p)).map (fun s=>(hchk p w s.abs,openSeen q loose (importedModules p.main.body) Xt true s.abs,Yf s.abs))=some (true,openGood q loose,Ya w)):
  LeftO p q loose Xt Yf Ya N:=fun w=>by
 obtain⟨⟨h,gs,d,k,os⟩,e,e'⟩:=Option.map_eq_some_iff.mp (open_ w)
 obtain⟨rfl,rfl,rfl,rfl⟩:h=boot_heap w.params∧gs= #[]∧d=boot_drawn∧k=boot_toks:=by simpa using e'
 obtain⟨z1,z2,z3⟩:_∧_∧_:=by simpa only [Prod.mk.injEq]using size w
 obtain⟨s,r,r'⟩:=Option.map_eq_some_iff.mp (run w os)
 obtain⟨l1,l2,l3⟩:_∧_∧_:=by simpa only [Prod.mk.injEq]using r'
 have r2:=goG_run _ _ _ _ r
 rw [S0_abs]at r2
 have t:topFrom treeTable p w N ⟨boot_heap w.params,#[],boot_drawn,boot_toks,os⟩=some s.abs:=by
  unfold topFrom
  dsimp only
  rw [z1,z2,z3,r2]
  show(match staticsOk (importedModules p.main.body) (boot_heap w.params) s.abs.heap&&namesBound p s.abs.heap&&gensDone s.abs&&laidKept (boot_heap w.params) s.abs.heap with|true=>_|false=>_)=_
  unfold hchk at l1
  rw [l1]
 unfold openEnds
 rw [e]
 show(topFrom treeTable p w N _).map _=_
 rw [t]
 exact congrArg some (Prod.ext l2 l3)
theorem opened(w:World):(fencedOpening treeTable pw w 10000).map (fun s=>(s.heap,s.gens,s.drawn,s.toks))=some (boot_heap w.params,Array.mk [],boot_drawn,boot_toks):=
 boot_open (p:=pw) (N:=10000) (by kernel_rfl) (by decide) (fun s=>by kernel_rfl) w
theorem sized(w:World):((boot_heap w.params).isNs mainGlobals,(boot_heap w.params).objs.size,(boot_heap w.params).nsMap mainGlobals "__annotations__")=(true,11,some (.ref 6)):=by kernel_rfl
noncomputable def qv:Program:=view pw [51]
noncomputable def loose:List Str:=(["_wall","CandidateSet","sorted_committees","str_set_of_candidates","combinations","Fraction","total","UnknownScoreFunctionError","MarginalScoreFct","get_marginal_scorefct","thiele_score","geometric_marginal_score_fct","pav_score_fct","adams_score_fct","slav_score_fct","av_score_fct","cc_score_fct","at_least_ell_fct","marginal_thiele_scores_add","MAX_NUM_OF_COMMITTEES_DEFAULT","Rule","UnknownRuleIDError","UnknownAlgorithm","NoAvailableAlgorithm","available_algorithms","compute_thiele_method","_thiele_methods_bruteforce","_thiele_methods_branchandbound","compute_pav","compute_slav","_adams_bruteforce","compute_adams","_seq_thiele_resolute","TiesException","compute","apply_threshold","largest_remainder","divisor","_divzero_fewerseatsthanparties","quota","Profile","Voter","_law_methods","_law_shares","_law_lets"]:List String).map Str.ofString
noncomputable abbrev orow:=OpenLaw.row rw'
noncomputable def Xt (s:Shared):Bool:=recOk (RowW.records orow.toRowW) s
noncomputable abbrev qSeen:= @PySem.W.Fast.tw4187177175401517315
theorem seen_q: @openSeen=qSeen:=PySem.W.Fast.te4187177175401517315
noncomputable def Yf (s:Shared):List (Option Obj):=(hid++KHas).map s.heap.get?
noncomputable def Ya (w:World):List (Option Obj):=[some tab0,some tab0,some tab0]++(KH w.params).map fun p=>some p.2
theorem left1:∀(w:World) (os:OsState),(goG stepOk (stepT (denote treeTable) pw w) 11 (some (.ref 6)) 10000 (S0 w os) (topStub pw)).map (fun s=>(hchk pw w s.abs,openSeen qv loose (importedModules pw.main.body) Xt true s.abs,Yf s.abs))=some (true,openGood qv loose,Ya w):=by
 intro w os;rw [goG_q,seen_q];kernel_rfl
noncomputable abbrev hK(w:World):GH:=fun b=>(KH w.params).lookup b
noncomputable abbrev Base(w:World)(G:GH):Prop:=∀b o,hK w b=some o→G b=some o
structure Ok(w:World)(z:Z):Prop where
 rep:Rep z
 base:Base w z.G
inductive FlowS where
 |next|brk|cont
 |ret (v:SV)
inductive FRel(y:Y):FlowS→Flow→Prop
 |next:FRel y .next .next
 |brk:FRel y .brk .brk
 |cont:FRel y .cont .cont
 |ret {x v}:VRel y x v→FRel y (.ret x) (.ret v)
structure FrS where
 fid:Nat
 cells:List (Str×Nat)
 scope:Scope
 code:Value
structure EnvOk(y:Y)(fr:FrS)(env:Env):Prop where
 scope:env.scope=fr.scope
 kind:fr.scope.kind= .function
 fid:fr.fid<y.n
 locals:env.locals=y.ρ fr.fid
 cells:env.cells=fr.cells.map fun p=>(p.1,y.ρ p.2)
 cn:∀p∈fr.cells,p.2<y.n
 globals:env.globals=mainGlobals
 builtins:env.builtins=builtinsNs
 code:env.code=fr.code
noncomputable abbrev KV:=SV→St→Prop
noncomputable abbrev KT:=Bool→Bool→St→Prop
noncomputable abbrev KF:=FlowS→St→Prop
noncomputable abbrev KL:=List SV→St→Prop
noncomputable abbrev KS:=St→Prop
noncomputable def AOk(k:Nat)(A:Around):Prop:=A.handled=none∧A.depth+3*k<recursionLimit∧A.units+16*k<cLine
inductive Post{α β:Type}(rel:Y→β→α→Prop)(K:β→St→Prop)(z:Z):α→Shared→Prop
 |mk {z' b a}:Step z z'→rel z'.y b a→K b z'.st→Post rel K z a z'.s
noncomputable def W{α β:Type}(w:World)(d:Nat)(rel:Y→β→α→Prop)(K:β→St→Prop)(z:Z)(t:Sem α):Prop:=
 ∀A E,AOk d A→Ok w z→wpAny (model pw w) A t (Post rel K z) E z.s
noncomputable def BRel(_:Y)(b:Bool×Bool)(x:Bool):Prop:=b.2=x
noncomputable def URel(_:Y)(_ _:Unit):Prop:=True
noncomputable abbrev KT.u(K:KT)(p:Bool×Bool):KS:=K p.1 p.2
noncomputable abbrev KS.u(K:KS)(_:Unit):KS:=K
section
variable {α β α' β':Type}{w:World}{d:Nat}{rel:Y→β→α→Prop}{K K':β→St→Prop}{z z' z1:Z}{t:Sem α}{A:Around}{E:Value→Shared→Prop}{a:α}{b:β}{s:Shared}
theorem wm{M:Model}{Q Q':α→Shared→Prop}(h:wpAny M A t Q E s)(k:∀a s',Q a s'→Q' a s'):wpAny M A t Q' E s:=wpAny_mono h k fun _ _ x=>x
theorem Step.ok(S:Step z z')(o:Ok w z):Ok w z':=⟨S.rep,fun b x e=>S.le.ext b x (o.base b x e)⟩
theorem Step.env(S:Step z z'){fr env}(r:EnvOk z.y fr env):EnvOk z'.y fr env:=
 ⟨r.scope,r.kind,Nat.lt_of_lt_of_le r.fid S.le.nx,r.locals.trans (S.le.rho _ r.fid).symm,r.cells.trans (List.map_congr_left fun p h=>congrArg (p.1,·) (S.le.rho _ (r.cn p h)).symm),fun p h=>Nat.lt_of_lt_of_le (r.cn p h) S.le.nx,r.globals,r.builtins,r.code⟩
theorem W.go(h:W w d rel K z t)(ok:Ok w z)(ha:AOk d A){Q:α→Shared→Prop}(k:∀z' b a,Step z z'→Ok w z'→rel z'.y b a→K b z'.st→Q a z'.s):wpAny (model pw w) A t Q E z.s:=
 wm (h A E ha ok) fun _ _ p=>by cases p with|mk S q h=>exact k _ _ _ S (S.ok ok) q h
theorem Post.from(S:Step z z1)(p:Post rel K z1 a s):Post rel K z a s:=by
 cases p with|mk S' q k=>exact .mk (S.trans S') q k
theorem Post.u{K:KS}(S:Step z z')(k:K z'.st):Post URel K.u z () z'.s:= .mk (b:=()) S trivial k
theorem W.last(h:W w d rel K z1 t)(ok:Ok w z1)(ha:AOk d A)(S:Step z z1):wpAny (model pw w) A t (Post rel K z) E z1.s:=
 wm (h A E ha ok) fun _ _ p=>p.from S
theorem W.mono(h:W w d rel K z t)(k:∀b st,K b st→K' b st):W w d rel K' z t:=fun A E ha ok=>
 wm (h A E ha ok) fun _ _ p=>by cases p with|mk S q h=>exact .mk S q (k _ _ h)
theorem Rep.end(r:Rep z)(q:rel z.y b a)(k:K b z.st):Post rel K z a z.s:= .mk (.refl r) q k
theorem Rep.endT(r:Rep z){tk:Tok}(q:rel z.y b a)(k:K b z.st):Post rel K z a {z.s with toks:=tk}:=
 .mk (z':=z.sh {z.s with toks:=tk}) (r.grow (fun _ _ e=>e) ⟨rfl,fun _ _ e=>e,fun x=>x⟩) q k
theorem AOk.mono{k:Nat}(hk:k≤d)(h:AOk d A):AOk k A:=by
 obtain⟨a,b,c⟩:=h
 exact⟨a,Nat.lt_of_le_of_lt (Nat.add_le_add_left (Nat.mul_le_mul_left 3 hk) _) b,Nat.lt_of_le_of_lt (Nat.add_le_add_left (Nat.mul_le_mul_left 16 hk) _) c⟩
theorem AOk.of{A':Around}(h:AOk (d+1) A){x y:Nat}(e:A'.handled=A.handled)(h1:A'.depth=A.depth+x)(h2:A'.units=A.units+y)(hx:x≤3)(hy:y≤16):AOk d A':=
 have key:∀{a' a x c L:Nat},a'=a+x→x≤c→a+c*(d+1)<L→a'+c*d<L:=fun{a' a x c L} e hx hL=>Nat.lt_of_le_of_lt (Nat.le_trans (Nat.add_le_add_right (e▸Nat.add_le_add_left hx a) _) (Nat.le_of_eq ((Nat.add_assoc ..).trans (congrArg (a+ ·) (Nat.add_comm ..))))) hL
 ⟨e.trans h.1,key h1 hx h.2.1,key h2 hy h.2.2⟩
theorem W.deep{e:Nat}(hd:d≤e)(h:W w d rel K z t):W w e rel K z t:=fun A E ha=>h A E (ha.mono hd)
end
noncomputable def way(s b:Bool)(t e:Prop):Prop:=match s with
 |true=>(b=true→t)∧(b=false→e)
 |false=>match b with
  |true=>t
  |false=>e
theorem way_of{s b:Bool}{t e:Prop}(h:way s b t e):(b=true→t)∧(b=false→e):=by
 cases s with
 |true=>exact h
 |false=>
  cases b
  ·exact⟨fun q=>(nomatch q),fun _=>h⟩
  ·exact⟨fun _=>h,fun q=>(nomatch q)⟩
noncomputable def zI(b:Bool)(p:Prop):Prop:=match b with
 |true=>p
 |false=>False
theorem zm{b:Bool}{p:Prop}(h:zI b p):b=true∧p:=by
 cases b
 ·exact h.elim
 ·exact⟨rfl,h⟩
noncomputable def zg{α:Type u}(o:Option α)(f:α→Prop):Prop:=match o with
 |some a=>f a
 |none=>False
theorem zr{α:Type u}{o:Option α}{f:α→Prop}(h:zg o f):∃a,o=some a∧f a:=by
 cases o with
 |none=>exact h.elim
 |some t=>exact⟨t,rfl,h⟩
noncomputable abbrev ap{κ:Type}(o:Option (κ→Prop))(K:κ):Prop:=zg o fun t=>t K
noncomputable def alt{α:Type u}(o:Option α)(f:α→Prop)(n:Prop):Prop:=match o with
 |some a=>f a
 |none=>n
theorem xE{α:Type u}{o:Option α}{f:α→Prop}{n:Prop}(h:alt o f n):(∃a,o=some a∧f a)∨(o=none∧n):=by
 cases o with
 |none=>exact .inr ⟨rfl,h⟩
 |some t=>exact .inl ⟨t,rfl,h⟩
noncomputable def zj{α:Type u}(b:Bool)(o:Option α):Option α:=match b with
 |true=>o
 |false=>none
theorem zv{α:Type u}{b:Bool}{o:Option α}{a:α}(h:zj b o=some a):b=true∧o=some a:=by
 cases b
 ·cases h
 ·exact⟨rfl,h⟩
theorem zz{α β:Type}{o:Option α}{f:α→Option β}{b:β}(h:o.bind f=some b):∃a,o=some a∧f a=some b:=by
 cases o with
 |none=>cases h
 |some t=>exact⟨t,rfl,h⟩
noncomputable def nsL(st:St)(i:Nat):Option (String×List (Str×SV)):=match st.own.lookup i with
 |some (.ns c fs)=>some (c,fs)
 |_=>none
noncomputable def cellL(fr:FrS)(st:St)(x:Str):Option (Nat×Option SV):=(fr.cells.lookup x).bind fun i=>(st.own.lookup i).bind fun so=>(cellV so).bind fun v=>some (i,v)
noncomputable def zA(st:St)(i:Nat):Option (List SV):=match st.own.lookup i with
 |some (.list xs)=>some xs
 |_=>none
inductive Op where
 |una (o:UnaryOp)|bin (o:Operator)|inp (o:Operator)|cmp (o:CmpOp)
 |attr (n:Str)|sub|setA (n:Str)|setI
noncomputable def OpW(w:World)(d:Nat)(K:KV)(z:Z):Op→List Value→Prop
 | .una o,[v]=>W w d VRel K z (unaryOp o v)
 | .bin o,[v,u]=>W w d VRel K z (binaryOp o v u)
 | .inp o,[v,u]=>W w d VRel K z (inplaceOp o v u)
 | .cmp o,[v,u]=>W w d VRel K z (compareOp o v u)
 | .attr n,[v]=>W w d VRel K z (getAttr v n true)
 | .sub,[v,i]=>W w d VRel K z (getItem v i)∧(Ok w z→∃T id,z.s.TypeIs v T∧typeLookup (.type T) "__getitem__"=pure (some (.builtin id)))
 | .setA n,[v,u]=>W w d URel (KS.u (K .non)) z (setAttr v n u)
 | .setI,[v,i,u]=>W w d URel (KS.u (K .non)) z (setItem v i u)
 |_,_=>False
noncomputable def zZ(st:St)(x:SV):Option (List SV):=match x with
 | .vlist xs=>some xs
 | .ref i=>zA st i
 |_=>none
noncomputable def asT(x:SV):Option (List SV):=match x with
 | .tup xs=>some xs
 |_=>none
noncomputable def asN(x:SV):Option (Bool×Int):=match x with
 | .num s i=>some (s,i)
 |_=>none
noncomputable def asS(x:SV):Option Str:=match x with
 | .str s=>some s
 |_=>none
noncomputable def truL(o:Option (List SV)):Option (Bool×Bool):=o.bind fun xs=>zj (Nat.ble xs.length 1000000) (some (false,!xs.isEmpty))
noncomputable def tru0(x:SV)(st:St):Option (Bool×Bool):=match x with
 | .non=>some (false,false)
 | .tf s b=>some (s,b)
 | .num s i=>some (s,i !=0)
 |x=>truL (zZ st x)
noncomputable def keeps0(w:World)(x:SV):Bool:=match x with
 | .vinst _ _=>true
 | .top v=>(match v with
  | .builtin _=>true
  | .type _=>true
  | .ref a=>keepIn (KH w.params) (.ref a)
  |_=>false)
 |_=>false
noncomputable def codeS(x:Str):Nat:=x.cps.toList.foldl (fun a c=>a*256+c) 1
noncomputable def pickG(n:Nat):List (Nat×Str×SV)→Option (Str×SV)
 | []=>none
 |(m,p)::r=>match Nat.beq n m with
  |true=>some p
  |false=>pickG n r
noncomputable abbrev gE(n:Nat)(x:Str)(v:SV):Nat×Str×SV:=(n,x,v)
noncomputable def globTab:List (Nat×Str×SV):=[
 gE 100081445289378901284177012084 "CandidateSet" (.top (.ref 30)),
 gE 23522970883492245358 "Fraction" (.top (.ref 194)),
 gE 8984543893370700079986593610127040449747767051766503982549237140638804 "MAX_NUM_OF_COMMITTEES_DEFAULT" (.non),
 gE 443138895779479787155795119945458017140 "MarginalScoreFct" (.top (.ref 252)),
 gE 6783155122688277163705625090483556 "NotImplemented" (.top .notImplemented),
 gE 94701414959901797 "Profile" (.top (.ref 666)),
 gE 5678394469 "Rule" (.top (.ref 362)),
 gE 26970193826742542851503758602094 "TiesException" (.top (.ref 501)),
 gE 1470748714354 "Voter" (.top (.ref 703)),
 gE 119568567110591698355331479183003856560997 "_adams_bruteforce" (.top (.ref 478)),
 gE 6482616824352613954675 "_law_lets" (.top (.ref 725)),
 gE 108760262707398145956996146291 "_law_methods" (.top (.ref 714)),
 gE 2006429183176666348274169709486049685124333007973 "_seq_thiele_resolute" (.top (.ref 491)),
 gE 2425651317372686678345351981897355492768004026163902931905976090144108132 "_thiele_methods_branchandbound" (.top (.ref 457)),
 gE 564765957503739436703117560105713897563518032515623162523837285 "_thiele_methods_bruteforce" (.top (.ref 449)),
 gE 23159411 "abs" (.top (.builtin "abs")),
 gE 1834916751028266496693213753980117876 "adams_score_fct" (.top (.ref 292)),
 gE 23161964 "all" (.top (.builtin "all")),
 gE 23162489 "any" (.top (.builtin "any")),
 gE 1835161328063716594607569965937552484 "apply_threshold" (.top (.ref 519)),
 gE 109391312467005847907244335988 "av_score_fct" (.top (.ref 306)),
 gE 109987312896075860090374480756 "cc_score_fct" (.top (.ref 313)),
 gE 110001885805879392024587628147 "combinations" (.top (.ref 50)),
 gE 100046132561146981 "compute" (.top (.ref 512)),
 gE 28160482832640049495693825502579 "compute_adams" (.top (.ref 486)),
 gE 429694867441407005245333878 "compute_pav" (.top (.ref 465)),
 gE 110001886065000193342856520054 "compute_slav" (.top (.ref 473)),
 gE 519469219805802400079863301939701063708359575236452 "compute_thiele_method" (.top (.ref 441)),
 gE 100321049005223794 "divisor" (.top (.ref 531)),
 gE 525258291068977855625834861745703429152884402840436 "get_marginal_scorefct" (.top (.ref 264)),
 gE 23686772 "int" (.top (.type "int")),
 gE 1706903273020983629210469 "isinstance" (.top (.builtin "isinstance")),
 gE 23881070 "len" (.top (.builtin "len")),
 gE 6113817460 "list" (.top (.type "list")),
 gE 587144070199617027692807006406510501998356425268419434528203876 "marginal_thiele_scores_add" (.top (.ref 327)),
 gE 23945592 "max" (.top (.builtin "max")),
 gE 29186126955202017744737874109300 "pav_score_fct" (.top (.ref 285)),
 gE 1590772524901 "range" (.top (.type "range")),
 gE 24339828 "set" (.top (.type "set")),
 gE 7533360767656263017254846674133876 "slav_score_fct" (.top (.ref 299)),
 gE 408397475505508 "sorted" (.top (.builtin "sorted")),
 gE 126392896717834790833193175059679941059955 "sorted_committees" (.top (.ref 37)),
 gE 24343666 "str" (.top (.type "str")),
 gE 542881900979067672512212395144433617507383174784371 "str_set_of_candidates" (.top (.ref 45)),
 gE 24343917 "sum" (.top (.builtin "sum")),
 gE 115254649658192893835138265701 "thiele_score" (.top (.ref 271)),
 gE 1599597732204 "total" (.top (.ref 205)),
 gE 424844776200780617281070451 "_law_shares" (.vlist [.vlist [.int 12,.int 6,.int 4,.int 3],.vlist [.int 105,.int 35,.int 21,.int 15],.vlist [.int 0,.int 6,.int 3,.int 2]]),
 gE 2017913715799688145631669185763343534556206099827 "available_algorithms" (.vlist [.str "branch-and-bound",.str "brute-force",.str "standard",.str "standard-fractions"])]
noncomputable def glob0(x:Str):Option SV:=(pickG (codeS x) globTab).bind fun p=>zj (x==p.1) (some p.2)
noncomputable def zO(x:SV)(k:Nat)(st:St):Option (Option SV):=match x with
 | .tup xs=>some xs[k]?
 | .rng a b=>some (match decide (a+(k:Int)<b)with
  |true=>some (.int (a+k))
  |false=>none)
 | .iset ys=>some (ys[k]?.map SV.sint)
 | .vinst _ fs=>(match fs.lookup ("_voters":Str)with
  |some (.vlist vs)=>some vs[k]?
  |_=>none)
 |x=>(zZ st x).map (·[k]?)
theorem yN{st:St}{i:Nat}{p}(h:nsL st i=some p):Has st i (.ns p.1 p.2):=by
 have:∀o:Option SO,(match o with|some (.ns c fs)=>some (c,fs)|_=>none)=some p→o=some (.ns p.1 p.2):=fun o h=>by
  induction o with
  |none=>cases h
  |some so=>induction so with
   |ns c fs=>cases h;rfl
   |_=>exact(zu rfl h).elim
 exact this _ h
theorem zB{st:St}{i:Nat}{xs}(h:zA st i=some xs):Has st i (.list xs):=by
 have:∀o:Option SO,(match o with|some (.list xs)=>some xs|_=>none)=some xs→o=some (.list xs):=fun o h=>by
  induction o with
  |none=>cases h
  |some so=>induction so with
   |list ys=>cases h;rfl
   |_=>exact(zu rfl h).elim
 exact this _ h
inductive LstI(z:Z)(xs:List SV):Value→Prop
 |mk {a vs k}:z.At a (listOf vs k)→VRels z.y xs vs.toList→LstI z xs (.ref a)
section
variable {w:World}{z:Z}{x:SV}{v:Value}{A:Around}{E:Value→Shared→Prop}
theorem zY{xs}(h:zZ z.st x=some xs)(r:Rep z)(q:VRel z.y x v):LstI z xs v:=by
 have q:=q.inv
 induction x using SV.casesOn with
 |vlist ys=>cases h;obtain⟨_,⟨a,b⟩⟩:=q;exact .mk (r.sub _ _ a) b
 |ref i=>
  obtain⟨_,e⟩:=q
  obtain⟨vs,k,h1,h2⟩:=r.list_of (zB h)
  exact e▸ .mk h1 h2
 |_=>exact(zu rfl h).elim
theorem xQ{xs}(h:asT x=some xs):x= .tup xs:=by
 induction x using SV.casesOn with
 |tup=>cases h;rfl
 |_=>exact(zu rfl h).elim
theorem asN_ok{p}(h:asN x=some p):x= .num p.1 p.2:=by
 induction x using SV.casesOn with
 |num=>cases h;rfl
 |_=>exact(zu rfl h).elim
theorem asS_ok{s}(h:asS x=some s):x= .str s:=by
 induction x using SV.casesOn with
 |str=>cases h;rfl
 |_=>exact(zu rfl h).elim
theorem zL{p}{y:Y}(h:asN x=some p)(q:VRel y x v):∃t,v= .int p.2 t:=(asN_ok h▸q).inv
theorem wn{s}{y:Y}(h:asS x=some s)(q:VRel y x v):∃t,v= .str s t:=(asS_ok h▸q).inv
theorem zU{h:Heap}{a:Addr}{vs:Array Value}{k:Nat}(e:h.get? a=some (listOf vs k)):h.IsList a vs:=⟨_,e,rfl,k,rfl⟩
theorem VRels.size{y:Y}{xs}{vs:Array Value}(q:VRels y xs vs.toList):xs.length=vs.size:=q.length.trans Array.length_toList
theorem VRels.emp{y:Y}{xs}{vs:Array Value}(q:VRels y xs vs.toList):xs.isEmpty=vs.isEmpty:=by
 have:∀us,VRels y xs us→xs.isEmpty=us.isEmpty:=fun us q=>by cases q<;>rfl
 rw [←Array.isEmpty_toList];exact this _ q
theorem yo{h:Heap}{a C dx:Addr}{od:Obj}(h1:h.get? a=some (instObj C dx))(h2:h.get? dx=some od):W.InstAt h a (instObj C dx) C (some od):=⟨h1,rfl,rfl,h2⟩
theorem tru_ok{p}{Q:Bool→Shared→Prop}(h:tru0 x z.st=some p)(ok:Ok w z)(q:VRel z.y x v)(k:∀tk,Q p.2 {z.s with toks:=tk}):wpAny (model pw w) A (truthy v) Q E z.s:=by
 have lst:truL (zZ z.st x)=some p→wpAny (model pw w) A (truthy v) Q E z.s:=fun h=>by
  obtain⟨xs,e,h⟩:=zz h
  obtain⟨hl,h⟩:=zv h
  cases h
  rcases zY e ok.rep q with⟨h1,h2⟩
  exact wpAny_truthy_list (zU h1) (Int.ofNat_lt.mpr (Nat.lt_of_le_of_lt (h2.size▸Nat.le_of_ble_eq_true hl) (show 1000000<2^63 by decide))) (congrArg (! ·) h2.emp▸k _)
 have q':=q.inv
 induction x using SV.casesOn with
 |non=>cases h;cases q';exact truthy_none (k z.s.toks)
 |tf=>cases h;cases q';exact wpAny_truthy_bool (k z.s.toks)
 |num=>obtain⟨t,rfl⟩:=q';cases h;exact truthy_int (k z.s.toks)
 |_=>exact lst h
theorem keeps_ok(h:keeps0 w x=true)(ok:Ok w z)(q:VRel z.y x v):∃κ,∀A E (Q:Keeper→Shared→Prop),Q κ z.s→wpAny (model pw w) A (keeperOf v) Q E z.s:=by
 have q:=q.inv
 induction x using SV.casesOn with
 |vinst C fs=>cases q with|mk a b=>exact⟨.caller,fun A E Q hq=>(kco_keeper (yo (ok.rep.sub _ _ a) (ok.rep.sub _ _ b)) rfl).here hq⟩
 |top u=>
  cases q
  induction v using Value.casesOn with
  |builtin id=>exact⟨.machine,fun A E Q q=>wpAny_pure q⟩
  |type id=>exact⟨.machine,fun A E Q q=>wpAny_pure q⟩
  |ref a=>
   obtain⟨k,_,l⟩:=keeps_K (M:=model pw w) (show keepIn (KH w.params) (.ref a)=true from h) z.s.heap (fun a o e=>ok.rep.sub a o (ok.base a o e))
   exact⟨k,fun A E Q q=>l.here q⟩
  |_=>exact Bool.noConfusion h
 |_=>exact Bool.noConfusion h
end
noncomputable def asL(o:Obj):Option (List Value):=match o with
 |⟨c,d,da,sl⟩=>match c with
  | .type c=>(match d with
   |none=>(match da with
    | .seq vs _=>zj (c=="list"&&sl.toList.isEmpty) (some vs.toList)
    |_=>none)
   |some _=>none)
  |_=>none
theorem asL_ok{o:Obj}{l}(h:asL o=some l):∃vs k,o=listOf vs k∧l=vs.toList:=by
 obtain⟨c,d,da,sl⟩:=o
 induction c using Value.casesOn with
 |type c=>induction d with
  |none=>induction da using Data.casesOn with
   |seq vs k=>
    obtain⟨e,h⟩:=zv h
    obtain⟨e1,e2⟩:=zx e
    obtain rfl:c="list":=beq_iff_eq.mp e1
    obtain rfl:sl= #[]:=Array.ext' (List.isEmpty_iff.mp e2)
    cases h
    exact⟨vs,k,rfl,rfl⟩
   |_=>exact(zu rfl h).elim
  |some=>exact(zu rfl h).elim
 |_=>exact(zu rfl h).elim
noncomputable def liftL(f:Value→SV)(v:Value)(o:Option (List Value)):SV:=match o with
 |some l=>.vlist (l.map f)
 |none=>.top v
noncomputable def lift(P:Params):Nat→Value→SV
 |0=>fun v=>.top v
 |n+1=>fun v=>match v with
  | .none=>.non
  | .bool b=>.bool b
  | .int i _=>.int i
  | .str s _=>.str s
  | .ref a=>liftL (lift P n) v (((KH P).lookup a).bind asL)
  |v=>.top v
noncomputable def globB(P:Params)(x:Str):Option (Option Value)→Option Value
 |some (some v)=>some v
 |some none=>(nsIn (KH P) 0 x).bind id
 |none=>none
noncomputable def globV(P:Params)(x:Str):Option Value:=globB P x (nsIn (KH P) 3 x)
theorem lift_pure{P:Params}{k:Nat}:∀v:Value,(lift P k v).pure=true:=by
 cases k with
 |zero=>exact fun _=>rfl
 |succ k=>
  intro v
  induction v using Value.casesOn with
  |ref a=>
   show(liftL _ _ (((KH P).lookup a).bind asL)).pure=true
   cases ((KH P).lookup a).bind asL<;>rfl
  |_=>rfl
theorem ze{α:Type}{f:α→SV}(h:∀a,(f a).pure=true):∀l:List α,zt (l.map f)=true
 | []=>rfl
 |a::r=>(Bool.and_eq_true _ _).mpr ⟨h a,ze h r⟩
theorem lift_ok{w:World}{y:Y}(h:Base w y.G)(k:Nat):∀v:Value,VRel y (lift w.params k v) v:=by
 induction k with
 |zero=>exact fun v=>.top
 |succ k ih=>
  intro v
  induction v using Value.casesOn with
  |ref a=>
   show VRel y (liftL (lift w.params k) (.ref a) (((KH w.params).lookup a).bind asL)) (.ref a)
   generalize e:((KH w.params).lookup a).bind asL=o
   induction o with
   |none=>exact .top
   |some l=>
    obtain⟨o,e1,e2⟩:=zz e
    obtain⟨vs,kk,rfl,rfl⟩:=asL_ok e2
    refine .vlist (ze lift_pure _) (h _ _ e1) ?_
    clear e e1 e2
    induction vs.toList with
    |nil=>exact .nil
    |cons v r ih2=>exact .cons (ih v) ih2
  |none=>exact .non
  |bool=>exact .tf
  |int=>exact .num
  |str=>exact .str
  |_=>exact .top
theorem globTab_map(P:Params):globTab.map (fun p=>(globV P p.2.1).map fun v=>lift P 3 v)=globTab.map (fun p=>some p.2.2):=by kernel_rfl
theorem pickG_mem{n:Nat}{p:Str×SV}{L:List (Nat×Str×SV)}(h:pickG n L=some p):∃m,(m,p)∈L:=by
 induction L with
 |nil=>cases h
 |cons q r ih=>
  obtain⟨m,q⟩:=q
  unfold pickG at h
  cases e:Nat.beq n m with
  |true=>rw [e]at h;cases h;exact⟨m,List.mem_cons_self ..⟩
  |false=>rw [e]at h;obtain⟨k,hk⟩:=ih h;exact⟨k,List.mem_cons_of_mem _ hk⟩
theorem glob_ok{w:World}{z:Z}{x:Str}{sv:SV}{A:Around}{E:Value→Shared→Prop}{Q:Value→Shared→Prop}{env:Env}(h:glob0 x=some sv)(ok:Ok w z)(hk:env.scope.kind= .function)(hx:env.kindOf x=some .globalImplicit)(hg:env.globals=mainGlobals)(hbu:env.builtins=builtinsNs)
  (q:∀u,VRel z.y sv u→Q u z.s):wpAny (model pw w) A (loadName env x) Q E z.s:=by
 obtain⟨p,e,h⟩:=zz h
 obtain⟨hx2,h⟩:=zv h
 cases h
 obtain⟨m,hm⟩:=pickG_mem e
 have e2:=List.map_inj_left.mp (globTab_map w.params) _ hm
 clear e
 obtain rfl:x=p.1:=beq_iff_eq.mp hx2
 obtain⟨v,e,h⟩:=Option.map_eq_some_iff.mp e2
 have q:=q v (h▸lift_ok ok.base 3 v)
 have X:(KH w.params).In z.s.heap:=fun a o e=>ok.rep.sub a o (ok.base a o e)
 rw [loadName_read hk hx]
 unfold loadGlobal
 rw [hg,hbu]
 clear h hm hx2 e2
 change globB w.params p.1 (nsIn (KH w.params) 3 p.1)=some v at e
 generalize e3:nsIn (KH w.params) 3 p.1=o at e
 rcases o with _|r
 ·exact(zu rfl e).elim
 ·refine wpAny_bind ((looks_nsIn X e3).here ?_)
  rcases r with _|v'
  ·obtain⟨r2,e4,e⟩:=zz e
   obtain rfl:r2=some v:=e
   exact wpAny_bind ((looks_nsIn X e4).here (wpAny_pure q))
  ·cases e;exact wpAny_pure q
structure Grow(D:List Addr)(g0:Nat)(z:Z)(G:GH)(s:Shared):Prop where
 keep:∀b o,b∉D→b∉bases→z.At b o→s.heap.get? b=some o
 tab:∀b∈bases,∃o,s.heap.get? b=some o∧TabO o
 ext:∀b o,z.G b=some o→G b=some o
 sub:∀b o,G b=some o→s.heap.get? b=some o
 new:∀b o,G b=some o→z.G b=some o∨z.s.heap.get? b=none
 os:s.os=z.s.os
 gens:∀(g:Nat) (gs:GenState),g<g0→z.s.gens[g]? =some gs→s.gens[g]? =some gs
 bare:(∀y∈z.s.gens,y.bare=true)→∀y∈s.gens,y.bare=true
inductive Gives(D:List Addr)(z:Z)(G:GH)(I:List Addr→Prop):Option SV→Option Value→Prop
 |none:Gives D z G I none none
 |some {v u D'}:I D'→(∀b∈D',(b∈D∨z.s.heap.get? b= .none)∧G b= .none)→VRel ⟨G,z.ρ,z.st.nx⟩ v u→Gives D z G I (some v) (some u)
structure IterI(w:World)(d:Nat)(x:SV)(it:Value)(g0:Nat)(y0:Y)(I:Nat→List Addr→Shared→Prop):Prop where
 frame:∀k D s s',I k D s→(∀b o,b∈D→s.heap.get? b=some o→s'.heap.get? b=some o)→(∀b o,y0.G b=some o→s'.heap.get? b=some o)→(∀b∈bases,∃o,s'.heap.get? b=some o∧TabO o)→GS s s'→I k D s'
 turn:∀k D y z A E (Q:Option Value→Shared→Prop),AOk d A→I k D z.s→Ok w z→Le y0 z.y→(∀b∈D,z.G b=none∧z.Out b)→zO x k z.st=some y→
  (∀r G s,Grow D g0 z G s→Gives D z G (fun D'=>I (k+1) D' s) y r→Q r s)→wpAny (model pw w) A (pyNext it) Q E z.s
 live:∀k D s,I k D s→∀b∈D,∃o,s.heap.get? b=some o
 self:∀k D s A E (Q:Value→Shared→Prop),I k D s→Q it s→wpAny (model pw w) A (pyIter it) Q E s
 tgo:∀k D s A E (Q:Unit→Shared→Prop) t v,I k D s→Q () s→wpAny (model pw w) A (letOwnedTupleGo t it v) Q E s
inductive LIv(w:World)(d:Nat)(zb:Z)(y0:Y)(x:SV)(it:Value)(k:Nat)(z:Z):Prop
 |mk {D g0 I}:Step zb z→IterI w d x it g0 y0 I→zb.s.gens.size≤g0→(∀b∈D,zb.s.heap.get? b=none∧z.G b=none∧z.Out b)→Le y0 z.y→I k D z.s→LIv w d zb y0 x it k z
noncomputable def LInv(w:World)(d:Nat)(zb:Z)(x:SV)(it:Value)(k:Nat)(z:Z):Prop:=∃y0,LIv w d zb y0 x it k z
theorem LInv.mk{w:World}{d:Nat}{zb z:Z}{x:SV}{it:Value}{k:Nat}{D g0 y0 I}(S:Step zb z)(It:IterI w d x it g0 y0 I)(hg:zb.s.gens.size≤g0)(hD:∀b∈D,zb.s.heap.get? b=none∧z.G b=none∧z.Out b)(hy:Le y0 z.y)(h:I k D z.s):LInv w d zb x it k z:=⟨y0,.mk S It hg hD hy h⟩
inductive IterPost(w:World)(d:Nat)(K:KV)(z:Z):Value→Shared→Prop
 |mk {z' x' it}:LInv w d z x' it 0 z'→K x' z'.st→IterPost w d K z it z'.s
noncomputable def xr(w:World)(A:Around)(env:Env)(E:Value→Shared→Prop)(K:KF)(z:Z)(r:Result)(s:Shared):Prop:=match r with
 | .ok f=>Post FRel K z f s
 | .error e=>cameBackBy (model pw w) A env E e s
structure Prims where
 op:Op→List SV→St→Option (KV→Prop)
 meth:SV→Str→St→Option (SV×List SV)
 call:SV→List SV→List (Str×SV)→St→Option (KV→Prop)
 iter:SV→St→Option (KV→Prop)
 special:Expr→FrS→St→Option (KV→Prop)
 loop:Expr→List Stmt→FrS→St→Option (KF→Prop)
 forl:Expr→SV→List Stmt→FrS→St→Option (KF→Prop)
 frz:Nat→Bool
structure Sound(w:World)(P:Prims)(d:Nat):Prop where
 op:∀o xs t K z vs,P.op o xs z.st=some t→t K→VRels z.y xs vs→OpW w d K z o vs
 meth:∀x n f xs z v pl A E (Q:Value×List Value→Shared→Prop),P.meth x n z.st=some (f,xs)→Ok w z→VRel z.y x v→(∀fv vs,VRel z.y f fv→VRels z.y xs vs→Q (fv,vs) z.s)→wpAny (model pw w) A (getMethod v n pl) Q E z.s
 call:∀f xs ks t K z fv vs kvs,P.call f xs ks z.st=some t→t K→VRel z.y f fv→VRels z.y xs vs→FRels z.y ks kvs→W w d VRel K z (call fv vs kvs)
 iter:∀x t K z v A E,P.iter x z.st=some t→t K→VRel z.y x v→AOk d A→Ok w z→wpAny (model pw w) A (pyIter v) (IterPost w d K z) E z.s
 special:∀e fr t K z env,P.special e fr z.st=some t→t K→EnvOk z.y fr env→W w d VRel K z (eval e env)
 loop:∀t b fr tr K z env A E,P.loop t b fr z.st=some tr→tr K→EnvOk z.y fr env→AOk d A→Ok w z→codeAny (model pw w) A (.whileLoop t b [] env) (xr w A env E K z) z.s
 forl:∀t x b fr tr K z env v A E,P.forl t x b fr z.st=some tr→tr K→EnvOk z.y fr env→VRel z.y x v→AOk d A→Ok w z→
  wpAny (model pw w) A (pyIter v) (fun it s=>codeAny (model pw w) A (.forLoop t it b [] env) (xr w A env E K z) s) E z.s
noncomputable def readK(fr:FrS)(st:St)(x:Str):Option NameKind→Option SV
 |some .local=>(nsL st fr.fid).bind fun p=>p.2.lookup x
 |some .cell=>(cellL fr st x).bind (·.2)
 |some .free=>match x=="__classdict__" with
  |true=>none
  |false=>(cellL fr st x).bind (·.2)
 |some .globalImplicit=>glob0 x
 |_=>none
noncomputable def y6(fr:FrS)(st:St)(x:Str):Option SV:=readK fr st x (fr.scope.names.lookup x)
noncomputable def putN{α:Type}(x:Str)(v:α):List (Str×α)→List (Str×α)
 | []=> [(x,v)]
 |p::r=>if p.1=x then(p.1,v)::r else p::putN x v r
noncomputable def writeK(fr:FrS)(st:St)(x:Str)(v:SV)(K:KS):Option NameKind→Prop
 |some .local=>zg (nsL st fr.fid) fun p=>K (st.put fr.fid (.ns p.1 (putN x v p.2)))
 |some .cell=>zg (cellL fr st x) fun p=>K (st.put p.1 (.cell (some v)))
 |_=>False
noncomputable def yD(fr:FrS)(st:St)(x:Str)(v:SV)(K:KS):Prop:=writeK fr st x v K (fr.scope.names.lookup x)
inductive Task where
 |E (e:Expr) (fr:FrS) (st:St) (K:KV)
 |Eo (e:Option Expr) (fr:FrS) (st:St) (K:KV)
 |Es (es:List Expr) (fr:FrS) (st:St) (K:KL)
 |Ks (ks:List Keyword) (fr:FrS) (st:St) (K:List (Str×SV)→St→Prop)
 |T (e:Expr) (fr:FrS) (st:St) (K:KT)
 |TA (op:BoolOp) (es:List Expr) (fr:FrS) (st:St) (K:KT)
 |Ifs (es:List Expr) (fr:FrS) (st:St) (K:KT)
 |A (e:Expr) (v:SV) (fr:FrS) (st:St) (K:KS)
 |As (es:List Expr) (vs:List SV) (fr:FrS) (st:St) (K:KS)
 |S (s:Stmt) (fr:FrS) (st:St) (K:KF)
 |Ss (ss:List Stmt) (fr:FrS) (st:St) (K:KF)
 |For (tgt:Expr) (x:SV) (k:Nat) (body:List Stmt) (fr:FrS) (st:St) (K:KF)
 |Wh (test:Expr) (body:List Stmt) (fr:FrS) (st:St) (K:KF)
 |LC (elt:Expr) (gens:List Comprehension) (depth:Nat) (x:SV) (k:Nat) (acc:Nat) (fr:FrS) (st:St) (K:KS)
noncomputable def closF(fr:FrS):List (Str×NameKind)→List (Str×Nat)→Option (List (Str×Nat))
 | [],acc=>some acc
 |(x,k)::r,acc=>match k with
  | .free=>(fr.cells.lookup x).bind fun i=>closF fr r ((x,i)::acc)
  |_=>closF fr r acc
noncomputable def yf:List (Str×NameKind)→List (Str×Nat)→St→List (Str×Nat)×St
 | [],cs,st=>(cs,st)
 |(x,k)::r,cs,st=>match k with
  | .cell=>yf r ((x,st.nx)::cs) (st.push (.cell none))
  |_=>yf r cs st
noncomputable def envOf(sc:Scope):Env:={scope:=sc,locals:=0,globals:=0,cells:=[]}
noncomputable def scopeOk(s:Scope):Bool:=s.kind== .function&&s.names.all fun x=>x.2 != .local||s.names.lookup x.1==some .local
noncomputable def appendL(acc:Nat)(y:SV)(st:St)(K:KS):Prop:=zg (zA st acc) fun xs=>zI (Nat.ble xs.length sizeLine) (K (st.put acc (.list (xs++[y]))))
noncomputable def condL(b:Bool)(v:SV):List SV:=match b with
 |true=> [v]
 |false=> []
noncomputable def appendC(acc:Nat)(b:Bool)(y:SV)(st:St)(K:KS):Prop:=zg (zA st acc) fun xs=>xs.length≤1000∧K (st.put acc (.list (xs++condL b y)))
noncomputable def madeL(f:Bool)(K:KV)(i:Nat)(st:St):Prop:=match f with
 |false=>K (.ref i) st
 |true=>zg (zA st i) fun xs=>zI (zt xs) (K (.vlist xs) (st.drop i))
noncomputable def isK(k:Nat)(e:Expr):Bool:=Nat.beq e.ctorIdx k
noncomputable def yV:List Expr→Bool
 | []=>true
 |e::r=> !isK 22 e&&yV r
noncomputable def notSet(e:Expr):Bool:= !isK 7 e
noncomputable def notCall(e:Expr):Bool:= !isK 16 e
noncomputable def noComp(e:Expr):Bool:= !(isK 8 e||isK 9 e||isK 10 e)
noncomputable def okTgt(t e:Expr):Bool:=((isK 23 t||isK 20 t) && !(isK 9 e||isK 10 e))||(noComp e&&(isK 21 t||(isK 25 t&& !isK 25 e)))
noncomputable def asSlc(e:Expr):Option (Option Expr×Option Expr)×Bool:=match e with
 | .Slice l u s _=>(match s with
  |none=>(some (l,u),false)
  |some _=>(none,false))
 |_=>(none,true)
noncomputable def asAtt(e:Expr):Option (Expr×Str×Pos):=match e with
 | .Attribute o a p=>some (o,a,p)
 |_=>none
noncomputable def xo(e:Expr):Option Str:=match e with
 | .Name x _=>some x
 |_=>none
noncomputable def asTup(e:Expr):Option (List Expr):=match e with
 | .Tuple es _ _=>some es
 |_=>none
noncomputable def two(l:List Expr):Option (Expr×Expr):=match l with
 | [x,y]=>some (x,y)
 |_=>none
noncomputable def asSwap(t e:Expr):Option (Str×Str×Expr×Expr):=((asTup t).bind two).bind fun p=>((asTup e).bind two).bind fun q=>(xo p.1).bind fun a=>(xo p.2).bind fun b=>some (a,b,q.1,q.2)
noncomputable def joinN(s b:Bool)(g:Option Comprehension)(e:Expr)(fr:FrS)(st:St):Option (Bool×SV):=match s,g with
 |true,none=>(xo e).bind fun y=>zj (!(y=="__debug__")) ((y6 fr st y).bind fun v=>some (b,v))
 |_,_=>none
noncomputable abbrev truK(x:SV)(st:St)(K:KT):Prop:=zg (tru0 x st) fun p=>K p.1 p.2 st
noncomputable def stp(w:World)(P:Prims)(V:Task→Prop):Task→Prop
 | .E e fr st K=>match e with
  | .Constant c _ _=>(match c with
   | .int i=>K (.int i) st
   | .str s=>K (.str s) st
   | .bool b=>K (.bool b) st
   | .none=>K .non st
   |_=>False)
  | .Name x _=>zI (!(x=="__debug__")) (zg (y6 fr st x) fun v=>K v st)
  | .BinOp l op r _=>V (.E l fr st fun a st1=>V (.E r fr st1 fun b st2=>ap (P.op (.bin op) [a,b] st2) K))
  | .UnaryOp op x _=>(match op with
   | .Not=>V (.E x fr st fun a st1=>truK a st1 fun s b st1=>K (.tf s !b) st1)
   |op=>V (.E x fr st fun a st1=>ap (P.op (.una op) [a] st1) K))
  | .IfExp t b o _=>V (.T t fr st fun s c st1=>way s c (V (.E b fr st1 K)) (V (.E o fr st1 K)))
  | .BoolOp op es _=>(match es with
   | [x,y]=>V (.E x fr st fun a st1=>truK a st1 fun s b st1=>match op with
    | .And=>way s b (V (.E y fr st1 K)) (K a st1)
    | .Or=>way s b (K a st1) (V (.E y fr st1 K)))
   |_=>False)
  | .Compare l ops rs _=>(match ops,rs with
   | [op],[r]=>zI (!behindInMarks op r) (V (.E l fr st fun a st1=>V (.E r fr st1 fun b st2=>ap (P.op (.cmp op) [a,b] st2) K)))
   |_,_=>False)
  | .Attribute o a _=>zI (notCall o) (V (.E o fr st fun x st1=>ap (P.op (.attr a) [x] st1) K))
  | .Subscript o i _=>alt (asSlc i).1 (fun p=>V (.E o fr st fun x st1=>V (.Eo p.1 fr st1 fun a st2=>V (.Eo p.2 fr st2 fun b st3=>ap (P.op .sub [x,.slc a b] st3) K))))
   (zI (asSlc i).2 (V (.E o fr st fun x st1=>V (.E i fr st1 fun j st2=>ap (P.op .sub [x,j] st2) K))))
  | .List es _=>V (.Es es fr st fun vs st1=>zI (Nat.ble vs.length sizeLine) (K (.ref st1.nx) (st1.push (.list vs))))
  | .Tuple es _ _=>V (.Es es fr st fun vs st1=>zI (Nat.ble vs.length sizeLine) (K (.tup vs) st1))
  | .Call f es ks pos=>alt (P.special (.Call f es ks pos) fr st) (fun t=>t K) (zI (yV es&&ks.all (·.arg.isSome))
    (alt (asAtt f) (fun p=>zI (notCall p.1&&(p.2.2.endLine==pos.line) &&(decide (es.length+ks.length+(if ks.isEmpty then 0 else 1)<30))) (V (.E p.1 fr st fun x st1=>zg (P.meth x p.2.1 st1) fun p=>V (.Es es fr st1 fun vs st3=>V (.Ks ks fr st3 fun kvs st4=>zI (keeps0 w p.1) (ap (P.call p.1 (p.2++vs) kvs st4) K))))))
     (V (.E f fr st fun x st1=>V (.Es es fr st1 fun vs st2=>V (.Ks ks fr st2 fun kvs st3=>zI (keeps0 w x) (ap (P.call x vs kvs st3) K)))))))
  | .ListComp elt gs scope lp=>(match gs with
   | []=>False
   |g::gens=>zI (g.is_async==0&&notSet g.iter&&scopeOk scope) (zg (closF fr scope.names []) fun cl=>V (.E g.iter fr st fun xv st1=>ap (P.iter xv st1) fun x' st2=>match yf scope.names cl ((st2.push (.list [])).push (.ns "dict" []))with
     |(cells,st3)=>V (.LC elt (g::gens) 0 x' 0 st2.nx ⟨st2.nx+1,cells,relabel scope (envOf fr.scope),fr.code⟩ st3 fun st4=>zI (nsL st4 (st2.nx+1)).isSome (madeL (P.frz lp.line) K st2.nx (st4.drop (st2.nx+1)))))))
  | .Dict ks vs dp=>ap (P.special (.Dict ks vs dp) fr st) K
  |_=>False
 | .Eo e fr st K=>match e with
  |none=>K .non st
  |some e=>V (.E e fr st K)
 | .Es es fr st K=>match es with
  | []=>K [] st
  |e::r=>zI (!isK 22 e) (V (.E e fr st fun v st1=>V (.Es r fr st1 fun vs st2=>K (v::vs) st2)))
 | .Ks ks fr st K=>match ks with
  | []=>K [] st
  |⟨some x,e,_⟩::r=>V (.E e fr st fun v st1=>V (.Ks r fr st1 fun vs st2=>K ((x,v)::vs) st2))
  |_=>False
 | .T e fr st K=>match e with
  | .UnaryOp op x p=>(match op with
   | .Not=>V (.T x fr st fun s b st1=>K s (!b) st1)
   |op=>V (.E (.UnaryOp op x p) fr st fun v st1=>truK v st1 K))
  | .BoolOp op es _=>V (.TA op es fr st K)
  | .IfExp t b o _=>V (.T t fr st fun s c st1=>way s c (V (.T b fr st1 K)) (V (.T o fr st1 K)))
  | .Compare l ops rs _=>(match ops,rs with
   | [op],[r]=>zI (!behindInMarks op r) (V (.E l fr st fun a st1=>V (.E r fr st1 fun b st2=>ap (P.op (.cmp op) [a,b] st2) fun c st3=>truK c st3 K)))
   |_,_=>False)
  |e=>V (.E e fr st fun v st1=>truK v st1 K)
 | .TA op es fr st K=>match es with
  | []=>K false (op== .And) st
  |e::r=>V (.T e fr st fun s c st1=>match op with
   | .And=>way s c (V (.TA op r fr st1 K)) (K false false st1)
   | .Or=>way s c (K false true st1) (V (.TA op r fr st1 K)))
 | .Ifs es fr st K=>match es with
  | []=>K false true st
  | [e]=>V (.T e fr st K)
  |_=>False
 | .A e v fr st K=>match e with
  | .Name x _=>yD fr st x v K
  | .Attribute o a _=>V (.E o fr st fun x st1=>ap (P.op (.setA a) [x,v] st1) fun _=>K)
  | .Subscript o i _=>V (.E o fr st fun x st1=>V (.E i fr st1 fun j st2=>ap (P.op .setI [x,j,v] st2) fun _=>K))
  | .Tuple es _ _=>(match v with
   | .tup vs=>zI (yV es&&Nat.beq vs.length es.length) (V (.As es vs fr st K))
   |_=>False)
  |_=>False
 | .As es vs fr st K=>match es,vs with
  | [],[]=>K st
  |e::r,v::vs=>V (.A e v fr st fun st1=>V (.As r vs fr st1 K))
  |_,_=>False
 | .S s fr st K=>match s with
  | .Expr e _=>zI (noComp e) (V (.E e fr st fun _ st1=>K .next st1))
  | .Return e _=>V (.Eo e fr st fun v st1=>K (.ret v) st1)
  | .Assign ts e _=>(match ts with
   | [t]=>alt (asSwap t e) (fun q=>swappedStores [t] e (envOf fr.scope)=pure (some [q.1,q.2.1])∧yV [q.2.2.1,q.2.2.2]=true∧
     V (.E q.2.2.1 fr st fun v1 st1=>V (.E q.2.2.2 fr st1 fun v2 st2=>yD fr st2 q.2.1 v2 fun st3=>yD fr st3 q.1 v1 (K .next))))
    (zI (okTgt t e) (V (.E e fr st fun v st1=>V (.A t v fr st1 (K .next)))))
   |_=>False)
  | .AugAssign t op e _=>(match t with
   | .Name x _=>zg (y6 fr st x) fun old=>V (.E e fr st fun v st1=>ap (P.op (.inp op) [old,v] st1) fun r st2=>yD fr st2 x r (K .next))
   | .Subscript o i _=>zI (asSlc i).2 (V (.E o fr st fun x st1=>V (.E i fr st1 fun j st2=>ap (P.op .sub [x,j] st2) fun old st3=>V (.E e fr st3 fun v st4=>ap (P.op (.inp op) [old,v] st4) fun r st5=>ap (P.op .setI [x,j,r] st5) fun _=>K .next))))
   |_=>False)
  | .If t b o _=>V (.T t fr st fun s c st1=>way s c (V (.Ss b fr st1 K)) (V (.Ss o fr st1 K)))
  | .For t it b o _=>zI (notSet it&&(xo t).isSome&&o.isEmpty) (V (.E it fr st fun x st1=>alt (P.forl t x b fr st1) (fun tr=>tr K) (ap (P.iter x st1) fun x' st2=>V (.For t x' 0 b fr st2 K))))
  | .While t b o _=>zI o.isEmpty (alt (P.loop t b fr st) (fun tr=>tr K) (V (.Wh t b fr st K)))
  | .Pass _=>K .next st
  |_=>False
 | .Ss ss fr st K=>match ss with
  | []=>K .next st
  |s::r=>V (.S s fr st fun f st1=>match f with
   | .next=>V (.Ss r fr st1 K)
   |f=>K f st1)
 | .For t x k b fr st K=>zg (zO x k st) fun o=>match o with
  |none=>K .next st
  |some v=>V (.A t v fr st fun st1=>V (.Ss b fr st1 fun f st2=>match f with
   | .next=>V (.For t x (k+1) b fr st2 K)
   | .cont=>V (.For t x (k+1) b fr st2 K)
   | .brk=>K .next st2
   | .ret v=>K (.ret v) st2))
 | .Wh t b fr st K=>V (.T t fr st fun s c st1=>way s c (V (.Ss b fr st1 fun f st2=>match f with
   | .next=>V (.Wh t b fr st2 K)
   | .cont=>V (.Wh t b fr st2 K)
   | .brk=>K .next st2
   | .ret v=>K (.ret v) st2)) (K .next st1))
 | .LC elt gens depth x k acc fr st K=>zg gens[depth]? fun g=>zI (g.is_async==0) (zg (zO x k st) fun o=>match o with
  |none=>K st
  |some v=>V (.A g.target v fr st fun st1=>V (.Ifs g.ifs fr st1 fun s c st2=>alt (joinN s c gens[depth+1]? elt fr st2) (fun p=>appendC acc p.1 p.2 st2 fun st4=>V (.LC elt gens depth x (k+1) acc fr st4 K))
    (way s c (alt gens[depth+1]? (fun g'=>zI (g'.is_async==0&&notSet g'.iter) (V (.E g'.iter fr st2 fun xv st3=>ap (P.iter xv st3) fun x' st4=>V (.LC elt gens (depth+1) x' 0 acc fr st4 fun st5=>V (.LC elt gens depth x (k+1) acc fr st5 K)))))
     (V (.E elt fr st2 fun y st3=>appendL acc y st3 fun st4=>V (.LC elt gens depth x (k+1) acc fr st4 K)))) (V (.LC elt gens depth x (k+1) acc fr st2 K))))))
noncomputable def vc(w:World)(P:Prims):Nat→Task→Prop
 |0=>fun _=>False
 |n+1=>stp w P (vc w P n)
section
variable {M:Model}{A:Around}{E:Value→Shared→Prop}{s:Shared}
theorem evalArgs_any{f:Value}{args:List (Bool×Sem Value)}{kws:List (Option Str×Sem Value)}{Q:Args→Shared→Prop}(ha:args.any (·.1)=false)(hk:kws.all (·.1.isSome)=true)
  (h:wpAny M A (spliced args) (fun vs s1=>wpAny M A (evalAll (kws.map (·.2))) (fun ks s2=>Q ⟨vs,(kws.filterMap (·.1)).zip ks⟩ s2) E s1) E s):wpAny M A (evalArgs f true args kws) Q E s:=by
 cases args with
 |nil=>
  unfold evalArgs
  show wpAny M A (spliced []>>=_) Q E s
  refine wpAny_bind (wm h fun vs s1 h1=>wpAny_bind (wpAny_pure (wpAny_holding ?_)))
  rw [hk]
  exact wpAny_bind (wm h1 fun ks s₂ h₂=>wpAny_bind (wpAny_pure (wpAny_pure h₂)))
 |cons a r=>
  obtain⟨b,x⟩:=a
  cases b with
  |true=>cases ha
  |false=>exact evalArgs_kw hk h
theorem yG{pos:Pos}{f:Value}{first:List Value}{args:List (Bool×Sem Value)}{kws:List (Option Str×Sem Value)}{Q:Value→Shared→Prop}(ha:args.any (·.1)=false)(hk:kws.all (·.1.isSome)=true)
  (h:wpAny M A (spliced args) (fun vs s1=>wpAny M A (evalAll (kws.map (·.2))) (fun ks s2=>(∃κ,∀Q:Keeper→Shared→Prop,Q κ s2→wpAny M A (keeperOf f) Q E s2)∧
   wpAny M A (call f (first++vs) ((kws.filterMap (·.1)).zip ks)) Q E s2) E s1) E s):wpAny M A (callWith pos f first args kws) Q E s:=by
 have hn:(args.any (·.1)||kws.any (·.1.isNone))=false:=by
  rw [ha,Bool.false_or,List.any_eq_false]
  exact fun x hx=>by rw [←Option.not_isSome,List.all_eq_true.mp hk x hx];decide
 unfold callWith
 refine wpAny_bind (wpAny_holding (wm (evalArgs_any (Q:=fun a s2=>(∃κ,∀Q:Keeper→Shared→Prop,Q κ s2→wpAny M A (keeperOf f) Q E s2)∧wpAny M A (call f (first++a.pos) a.kw) Q E s2) ha hk h) fun a s2 q=> ?_))
 obtain⟨⟨κ,hκ⟩,hc⟩:=q
 refine wpAny_bind (wpAny_standAt (wpAny_bind (hκ _ ?_)))
 dsimp only
 rw [hn]
 have fin:∀{m:Sem Value},wpAny M A m Q E s2→wpAny M A (do let r←m;holding [r] point;pure r) Q E s2:=fun hm=>
  wpAny_bind (wm hm fun r s3 q=>wpAny_bind (wpAny_holding (wpAny_point (wpAny_pure q))))
 cases κ<;>(try dsimp only)<;>first
  |exact fin hc
  |exact fin (wpAny_operateT hc)
  |(split
    ·exact fin hc
    ·exact fin (wpAny_keep hc))
end
noncomputable abbrev putV(x:Str)(v:Value):= @Mine.putN Value x v
theorem lookup_putV{α:Type}{x:Str}{v:α}(y:Str){l:List (Str×α)}:(Mine.putN x v l).lookup y=if y=x then some v else l.lookup y:=by
 induction l with
 |nil=>
  show List.lookup y [(x,v)]=_
  rw [List.lookup_cons]
  by_cases h:y=x
  ·rw [if_pos h,h,beq_self_eq_true]
  ·rw [if_neg h,beq_false_of_ne h]
 |cons p r ih=>
  show List.lookup y (if p.1=x then(p.1,v)::r else p::Mine.putN x v r)=_
  by_cases hz:p.1=x
  ·rw [if_pos hz,List.lookup_cons,List.lookup_cons,hz]
   by_cases h:y=x
   ·rw [if_pos h,h,beq_self_eq_true]
   ·rw [if_neg h,beq_false_of_ne h]
  ·rw [if_neg hz,List.lookup_cons,List.lookup_cons,ih]
   by_cases h:y=p.1
   ·rw [h,beq_self_eq_true];exact(if_neg hz).symm
   ·rw [beq_false_of_ne h]
theorem FRels.put{y x}{sv:SV}{v:Value}(h:VRel y sv v){fs:List (Str×SV)}{l:List (Str×Value)}(q:FRels y fs l):FRels y (putN x sv fs) (putV x v l):=by
 induction q with
 |nil=>exact .cons h .nil
 | @cons k s u r l a b ih=>
  show FRels y (if k=x then(k,sv)::r else(k,s)::putN x sv r) (if k=x then(k,v)::l else(k,u)::putV x v l)
  by_cases hk:k=x
  ·rw [if_pos hk,if_pos hk];exact .cons h b
  ·rw [if_neg hk,if_neg hk];exact .cons a ih
theorem NRel.put{y x c}{sv:SV}{v:Value}(h:VRel y sv v){fs:List (Str×SV)}{l:List (Str×Value)}(q:NRel y c fs l):NRel y c (putN x sv fs) (putV x v l):=by
 refine⟨fun z sv' e=> ?_,q.ex.imp id (FRels.put h)⟩
 rw [lookup_putV]at e⊢
 by_cases c:z=x
 ·rw [if_pos c]at e⊢;cases e;exact⟨_,rfl,h⟩
 ·rw [if_neg c]at e⊢;exact q.sub z sv' e
section
variable {z z':Z}{w:World}{P:Prims}{d:Nat}{A:Around}{E:Value→Shared→Prop}{env:Env}{fr:FrS}{x:Str}{v:SV}{u:Value}
theorem turn_ns(r:Rep z){s:Shared}{i:Nat}{c:String}{fs fs':List (Str×SV)}{l':List (Str×Value)}(e:Has z.st i (.ns c fs))(hn:s.heap.Ns (z.ρ i) (fun x=>List.lookup x l'))(hs:Heap.SameBut (z.ρ i) z.s.heap s.heap)(hr:NRel z.y c fs' l')(g:GS z.s s):Step z ⟨z.G,z.ρ,z.st.put i (.ns c fs'),s⟩:=by
 obtain⟨o,es,ep,h1,h⟩:=hn
 exact r.turn e hs.2 h1 (.ns ⟨es,ep,h⟩ hr) g
theorem lookup_cells{ρ:Nat→Addr}{l:List (Str×Nat)}{i:Nat}(h:l.lookup x=some i):(l.map fun p=>(p.1,ρ p.2)).lookup x=some (ρ i)∧(x,i)∈l:=by
 induction l with
 |nil=>cases h
 |cons p l ih=>
  rw [List.lookup_cons]at h
  rw [List.map_cons,List.lookup_cons]
  by_cases e:x=p.1
  ·subst e;rw [beq_self_eq_true]at h⊢;cases h;exact⟨rfl,List.mem_cons_self ..⟩
  ·rw [beq_false_of_ne e]at h⊢;exact(ih h).imp id (List.mem_cons_of_mem _)
theorem EnvOk.cell{y:Y}(h:EnvOk y fr env){i:Nat}(e:fr.cells.lookup x=some i):i<y.n∧env.cells.lookup x=some (y.ρ i):=by
 rw [h.cells];exact⟨h.cn _ (lookup_cells (ρ:=y.ρ) e).2,(lookup_cells (ρ:=y.ρ) e).1⟩
theorem EnvOk.kindOf{y:Y}(e:EnvOk y fr env){k:NameKind}(l:fr.scope.names.lookup x=some k):env.kindOf x=some k:=by
 unfold Env.kindOf;rw [e.scope];exact l
theorem EnvOk.fn{y:Y}(e:EnvOk y fr env):env.scope.kind= .function:=by rw [e.scope];exact e.kind
theorem cellL_of{st:St}{p}(h:cellL fr st x=some p):fr.cells.lookup x=some p.1∧∃so,Has st p.1 so∧cellV so=some p.2:=by
 obtain⟨i,e,h⟩:=zz h
 obtain⟨so,e2,h⟩:=zz h
 obtain⟨v,e3,h⟩:=zz h
 cases h
 exact⟨e,so,e2,e3⟩
theorem Ns.congr{h:Heap}{a:Addr}{m m':Str→Option Value}(e:∀y,m y=m' y)(n:h.Ns a m):h.Ns a m':=funext e▸n
theorem write_k{M:Model}{K:KS}{k:Option NameKind}(h:writeK fr z.st x v K k)(l:fr.scope.names.lookup x=k)(r:Rep z)(e:EnvOk z.y fr env)(q:VRel z.y v u):wpAny M A (storeName env x u) (Post URel K.u z) E z.s:=by
 induction k with
 |none=>exact h.elim
 |some k=>
  have hk:=e.kindOf l
  have el:env.locals=z.ρ fr.fid:=e.locals
  induction k with
  |«local»=>
   obtain⟨p,o,h⟩:=zr h
   obtain⟨l',hn,hr⟩:=r.ns_of (yN o)
   exact wpAny_storeName_local hk (el▸hn) (fun h' hn' hs'=>.u (turn_ns (s:={z.s with heap:=h',toks:=_}) r (yN o) (Ns.congr (fun y=>(lookup_putV y).symm) (el▸hn')) (el▸hs') (hr.put q) (.same rfl rfl)) h) (by rw [e.fn];rfl)
  |cell=>
   obtain⟨p,o,h⟩:=zr h
   obtain⟨eo,so,es,ec⟩:=cellL_of o
   obtain⟨v0,hc,_⟩:=r.cell_of es ec
   exact wpAny_storeName_cell e.fn hk (e.cell eo).2 hc (fun h' ⟨o',h1,h2⟩ hs'=>.u (r.turn (s:={z.s with heap:=h'}) es hs'.2 h1 (.cellS h2 q) .heap) h)
  |_=>exact h.elim
theorem write_ok{K:KS}(h:yD fr z.st x v K)(e:EnvOk z.y fr env)(q:VRel z.y v u):W w d URel K.u z (storeName env x u):=fun A E _ ok=>write_k h rfl ok.rep e q
theorem writeR{M:Model}{K:KS}(h:yD fr z.st x v K)(r:Rep z)(e:EnvOk z.y fr env)(q:VRel z.y v u):wpAny M A (storeName env x u) (Post URel K.u z) E z.s:=write_k h rfl r e q
theorem cell_ok(ok:Ok w z)(h:(cellL fr z.st x).bind (·.2)=some v):∃i u,fr.cells.lookup x=some i∧z.s.heap.IsCell (z.ρ i) (some u)∧VRel z.y v u:=by
 obtain⟨p,o,h⟩:=zz h
 obtain⟨eo,so,es,ec⟩:=cellL_of o
 obtain⟨v1,hc,hv⟩:=ok.rep.cell_of es ec
 obtain⟨u,rfl,hu⟩:=hv _ h
 exact⟨_,u,eo,hc,hu⟩
theorem read_k{Q:Value→Shared→Prop}{k:Option NameKind}(h:readK fr z.st x k=some v)(l:fr.scope.names.lookup x=k)(ok:Ok w z)(e:EnvOk z.y fr env)
  (hQ:∀u,VRel z.y v u→Q u z.s):wpAny (model pw w) A (loadName env x) Q E z.s:=by
 induction k with
 |none=>cases h
 |some k=>
  have hk:=e.kindOf l
  have el:env.locals=z.ρ fr.fid:=e.locals
  induction k with
  |«local»=>
   obtain⟨p,o,h⟩:=zz h
   obtain⟨l',hn,hr⟩:=ok.rep.ns_of (yN o)
   obtain⟨u,h1,h2⟩:=hr.sub x _ h
   exact wpAny_loadName_local e.fn hk (el▸hn) h1 (hQ u h2)
  |cell=>
   obtain⟨i,u,c,hc,hu⟩:=cell_ok ok h
   exact wpAny_loadName_cell e.fn hk (e.cell c).2 hc (hQ u hu)
  |free=>
   have key:∀b,(x=="__classdict__")=b→(match b with|true=>none|false=>(cellL fr z.st x).bind (·.2))=some v→wpAny (model pw w) A (loadName env x) Q E z.s:=fun b hx h=>by
    induction b with
    |true=>cases h
    |false=>
     obtain⟨i,u,c,hc,hu⟩:=cell_ok ok h
     exact wpAny_loadName_free e.fn hk (e.cell c).2 hc (hQ u hu) hx
   exact key _ rfl h
  |globalImplicit=>
   exact glob_ok h ok e.fn hk e.globals e.builtins hQ
  |_=>cases h
theorem yX{Q:Value→Shared→Prop}(h:y6 fr z.st x=some v)(ok:Ok w z)(e:EnvOk z.y fr env)(hQ:∀u,VRel z.y v u→Q u z.s):wpAny (model pw w) A (loadName env x) Q E z.s:=read_k h rfl ok e hQ
end
section
variable {w:World}{P:Prims}{d:Nat}{A:Around}{zb z z':Z}{x:SV}{it:Value}{k:Nat}{s:Shared}
variable {y0:Y}
theorem LIv.step(L:LIv w d zb y0 x it k z):Step zb z:=by cases L with|mk S=>exact S
theorem LIv.le(L:LIv w d zb y0 x it k z):Le y0 z.y:=by cases L;assumption
theorem LIv.move(L:LIv w d zb y0 x it k z)(S:Step z z'){z1:Z}(Sb:Step zb z1)(hG:z1.G=z'.G)(hs:z1.s=z'.s)(hy:Le y0 z1.y)(ho:∀b,z'.Out b→z1.Out b):LIv w d zb y0 x it k z1:=by
 cases L with
 | @mk D g0 I _ It hg hD _ hI=>
  have hD':∀b∈D,z'.s.heap.get? b=z.s.heap.get? b∧z'.G b=none∧z'.Out b:=fun b h=>by
   obtain⟨o,e⟩:=It.live k D z.s hI b h
   obtain⟨p,q,r⟩:=S.out b o e (hD b h).2.2
   exact⟨Eq.trans p e.symm,r.trans (hD b h).2.1,q⟩
  exact .mk Sb It hg (fun b h=>⟨(hD b h).1,hG▸(hD' b h).2.1,ho b (hD' b h).2.2⟩) hy (It.frame k D z.s z1.s hI (fun b o h e=>hs▸((hD' b h).1).trans e) (fun b o e=>Sb.rep.sub b o (hy.ext b o e)) (fun b m=>let⟨o,w⟩:=Sb.rep.tab b m;⟨o,w.at',w.tab⟩) (hs▸S.gs))
theorem LInv.step(L:LInv w d zb x it k z):Step zb z:=L.elim fun _ L=>L.step
theorem LInv.go(L:LInv w d zb x it k z)(S:Step z z'):LInv w d zb x it k z':=L.imp fun _ L=>L.move S (L.step.trans S) rfl rfl (L.le.trans S.le) fun _ h=>h
theorem Step.turned(S:Step zb z){D:List Addr}{g0:Nat}{G:GH}(hg:zb.s.gens.size≤g0)(hD:∀b∈D,zb.s.heap.get? b=none∧z.G b=none∧z.Out b)(n:Grow D g0 z G s):Step zb ⟨G,z.ρ,z.st,s⟩:=by
 have le:Le z.y ⟨G,z.ρ,z.st.nx⟩:=⟨Nat.le_refl _,fun _ _=>rfl,n.ext⟩
 have old:∀{b o},z.At b o→z.G b=none→G b=none:=fun{b o} e h=>yW (fun o' h'=>(n.new b o' h').elim (fun q=>(zu h q).elim) fun q=>(zu q e).elim) (rfl:(none:Option Obj)=none)
 have kp:∀{i so o},Has z.st i so→z.At (z.ρ i) o→s.heap.get? (z.ρ i)=some o:=fun h e=>n.keep _ _ (fun q=>(hD _ q).2.2.1 _ _ h rfl) (fun m=>let⟨_,w⟩:=S.rep.tab _ m;w.ow _ _ h rfl) e
 refine⟨⟨n.sub,fun i so h=>let⟨o,w⟩:=S.rep.own i so h;⟨o,w.lt,old w.hp w.gn,kp h w.hp,w.rel.mono le⟩,S.rep.inj,fun b m=>let⟨_,w⟩:=S.rep.tab b m;let⟨o,e,t⟩:=n.tab b m;⟨o,e,t,old w.at' w.gn,w.ow⟩⟩,S.le.trans le,fun b o e h=> ?_,fun i so h=>⟨(S.own i so h).1,?_⟩,⟨n.os.trans S.gs.os,fun g gs e=>n.gens g gs (Nat.lt_of_lt_of_le (Array.getElem?_eq_some_iff.mp e).1 hg) (S.gs.gens g gs e),fun e=>n.bare (S.gs.bare e)⟩⟩
 ·obtain⟨p,q,r⟩:=S.out b o e h
  refine⟨n.keep b o (fun m=>zu (hD b m).1 e) h.2 p,q,?_⟩
  cases hz:z.G b with
  |none=>exact(old p hz).trans (hz.symm.trans r)
  |some o'=>exact(n.ext b o' hz).trans (hz.symm.trans r)
 ·obtain⟨⟨o,l⟩,o',e⟩:=S.own i so h
  by_cases m:zb.ρ i∈bases
  ·obtain⟨o,e,_⟩:=n.tab _ m;exact⟨o,e⟩
  ·exact⟨o',n.keep _ _ (fun q=>zu (hD _ q).1 l) m e⟩
theorem EnvOk.mv{G G':GH}{ρ:Nat→Addr}{n:Nat}{fr:FrS}{env:Env}(r:EnvOk ⟨G,ρ,n⟩ fr env):EnvOk ⟨G',ρ,n⟩ fr env:=⟨r.scope,r.kind,r.fid,r.locals,r.cells,r.cn,r.globals,r.builtins,r.code⟩
theorem LIv.turnL(L:LIv w d zb y0 x it k z)(ha:AOk d A)(ok:Ok w z){y:Option SV}(hi:zO x k z.st=some y){Q:Option Value→Shared→Prop}{E:Value→Shared→Prop}
  (h0:y=none→∀G s,Step zb ⟨G,z.ρ,z.st,s⟩→(∀b o,z.G b=some o→G b=some o)→Q none s) (h1:∀v u G s,y=some v→LIv w d zb y0 x it (k+1) ⟨G,z.ρ,z.st,s⟩→VRel ⟨G,z.ρ,z.st.nx⟩ v u→(∀b o,z.G b=some o→G b=some o)→Q (some u) s):wpAny (model pw w) A (pyNext it) Q E z.s:=by
 cases L with
 | @mk D g0 I Sb It hg hD hy hI=>
  refine It.turn k D y z A E Q ha hI ok hy (fun b h=>(hD b h).2) hi fun r G s n hr=> ?_
  have S:=Sb.turned hg hD n
  cases hr with
  |none=>exact h0 rfl G s S n.ext
  |some hI' hD' hv=>exact h1 _ _ G s rfl (.mk S It hg (fun b h=>(hD' b h).1.elim (fun q=>⟨(hD b q).1,(hD' b h).2,(hD b q).2.2⟩) fun e=>⟨Sb.dead e,(hD' b h).2,(Sb.rep.aside e).2⟩) (hy.trans ⟨Nat.le_refl _,fun _ _=>rfl,n.ext⟩) hI') hv n.ext
theorem LIv.turn(L:LIv w d zb y0 x it k z)(ha:AOk d A)(ok:Ok w z){y:Option SV}(hi:zO x k z.st=some y){Q:Option Value→Shared→Prop}{E:Value→Shared→Prop}
  (h0:y=none→∀G s,Step zb ⟨G,z.ρ,z.st,s⟩→Q none s) (h1:∀v u G s,y=some v→LIv w d zb y0 x it (k+1) ⟨G,z.ρ,z.st,s⟩→VRel ⟨G,z.ρ,z.st.nx⟩ v u→Q (some u) s):wpAny (model pw w) A (pyNext it) Q E z.s:=
 L.turnL ha ok hi (fun q G s S _=>h0 q G s S) fun v u G s e L q _=>h1 v u G s e L q
theorem LInv.turn(L:LInv w d zb x it k z)(ha:AOk d A)(ok:Ok w z){y:Option SV}(hi:zO x k z.st=some y){Q:Option Value→Shared→Prop}{E:Value→Shared→Prop}
  (h0:y=none→∀G s,Step zb ⟨G,z.ρ,z.st,s⟩→Q none s) (h1:∀v u G s,y=some v→LInv w d zb x it (k+1) ⟨G,z.ρ,z.st,s⟩→VRel ⟨G,z.ρ,z.st.nx⟩ v u→Q (some u) s):wpAny (model pw w) A (pyNext it) Q E z.s:=
 L.elim fun _ L=>L.turn ha ok hi h0 fun v u G s e L=>h1 v u G s e ⟨_,L⟩
theorem LInv.self(L:LInv w d zb x it k z){E:Value→Shared→Prop}{Q:Value→Shared→Prop}(q:Q it z.s):wpAny (model pw w) A (pyIter it) Q E z.s:=by
 obtain⟨_,⟨_,It,_,_,_,hI⟩⟩:=L;exact It.self _ _ _ A E Q hI q
theorem LInv.tgo(L:LInv w d zb x it k z){E:Value→Shared→Prop}{Q:Unit→Shared→Prop}{t:Expr}{v:Value}(q:Q () z.s):wpAny (model pw w) A (letOwnedTupleGo t it v) Q E z.s:=by
 obtain⟨_,⟨_,It,_,_,_,hI⟩⟩:=L;exact It.tgo _ _ _ A E Q t v hI q
end
noncomputable def KRel(ks:List Keyword)(y:Y)(b:List (Str×SV))(a:List Value):Prop:=FRels y b ((ks.filterMap (·.arg)).zip a)
noncomputable def tests(ifs:List Expr)(env:Env):Sem Bool:=forIn ifs true fun c r=>if r=true then do let ok←isTrue c env (eval c env);pure (ForInStep.yield ok)else pure (ForInStep.yield r)
noncomputable def zW(w:World)(P:Prims)(d:Nat):Task→Prop
 | .E e fr st K=>∀z env,z.st=st→EnvOk z.y fr env→W w d VRel K z (eval e env)
 | .Eo e fr st K=>∀z env,z.st=st→EnvOk z.y fr env→W w d VRel K z (evalPart e env)
 | .Es es fr st K=>∀z env pos,z.st=st→EnvOk z.y fr env→W w d VRels K z (spliced (backTo pos (starEach es env)))
 | .Ks ks fr st K=>∀z env pos,z.st=st→EnvOk z.y fr env→W w d (KRel ks) K z (evalAll ((backToKw pos (keywordEach ks env)).map (·.2)))
 | .T e fr st K=>∀z env,z.st=st→EnvOk z.y fr env→W w d BRel K.u z (isTrue e env (eval e env))
 | .TA op es fr st K=>∀z env,z.st=st→EnvOk z.y fr env→W w d BRel K.u z (allTrue op es env)
 | .Ifs es fr st K=>∀z env,z.st=st→EnvOk z.y fr env→W w d BRel K.u z (tests es env)
 | .A e v fr st K=>∀z env u,z.st=st→EnvOk z.y fr env→VRel z.y v u→W w d URel K.u z (assign e env u)
 | .As es vs fr st K=>∀z env us,yV es=true→z.st=st→EnvOk z.y fr env→VRels z.y vs us→W w d URel K.u z (assignInOrder ((assignEach es env).map (·.2)) us)
 | .S e fr st K=>∀z env,z.st=st→EnvOk z.y fr env→W w d FRel K z (exec e env)
 | .Ss e fr st K=>∀z env,z.st=st→EnvOk z.y fr env→W w d FRel K z (execs e env)
 | .For .. =>True
 | .Wh .. =>True
 | .LC elt gens depth x k acc fr st K=>∀zb it z env A scope pos (R:Result→Shared→Prop),z.st=st→AOk d A→Ok w zb→LInv w d zb x it k z→EnvOk z.y fr env→acc<st.nx→
  (∀z',Step zb z'→(∀i,i<st.nx→z'.ρ i=z.ρ i)→K z'.st→R (.ok .next) z'.s)→codeAny (model pw w) A (.compLoop (.ListComp elt gens scope pos) depth it (.ref (z.ρ acc)) env) R z.s
noncomputable def IHn(w:World)(P:Prims)(d n:Nat):Prop:=∀m,m<n→∀t,vc w P m t→zW w P d t
section
variable {w:World}{P:Prims}{d:Nat}
theorem isK_ne{k:Nat}{e e':Expr}(h:(!isK k e)=true)(h':isK k e'=true):e≠e':=fun q=>by rw [q,h']at h;cases h
theorem yr{e:Expr}{r:List Expr}(h:yV (e::r)=true):(!isK 22 e)=true∧yV r=true:=zx h
theorem ym{e:Expr}{r:List Expr}{env:Env}(h:(!isK 22 e)=true):starEach (e::r) env=(false,eval e env)::starEach r env:=by
 induction e using Expr.casesOn with
 |Starred=>exact Bool.noConfusion h
 |_=>rfl
theorem yj{e:Expr}{r:List Expr}{env:Env}(h:(!isK 22 e)=true):assignEach (e::r) env=(false,assign e env)::assignEach r env:=by
 induction e using Expr.casesOn with
 |Starred=>exact Bool.noConfusion h
 |_=>rfl
theorem wV{o:Expr}{a:Str}{env:Env}{m:Sem Value}(h:notCall o=true):attributeBase o a env m=m:=by
 induction o using Expr.casesOn with
 |Call=>exact Bool.noConfusion h
 |_=>rfl
theorem xR{e:Expr}{env:Env}(h:notSet e=true)(x:Value):foldedSetIterable e env x=pure x:=by
 induction e using Expr.casesOn with
 |Set=>exact Bool.noConfusion h
 |_=>rfl
theorem sw_false{e:Expr}{t:Option Expr}{l:Nat}{env:Env}(h:noComp e=true):swapsWith e t l env=pure false:=by
 induction e using Expr.casesOn with
 |ListComp=>exact Bool.noConfusion h
 |SetComp=>exact Bool.noConfusion h
 |DictComp=>exact Bool.noConfusion h
 |_=>rfl
theorem star_ok{env:Env}{pos:Pos}{es:List Expr}(h:yV es=true):(backTo pos (starEach es env)).any (·.1)=false∧(backTo pos (starEach es env)).all (!·.1)=true∧(assignEach es env).findIdx? (·.1)=none:=by
 induction es with
 |nil=>exact⟨rfl,rfl,rfl⟩
 |cons e r ih=>
  obtain⟨h1,h2⟩:=yr h
  obtain⟨a,b,c⟩:=ih h2
  rw [ym h1,yj h1,List.findIdx?_cons,c]
  exact⟨a,b,rfl⟩
theorem assign_len{env:Env}{es:List Expr}(h:yV es=true):(assignEach es env).length=es.length:=by
 induction es with
 |nil=>rfl
 |cons e r ih=>
  obtain⟨h1,h2⟩:=yr h
  rw [yj h1];exact congrArg (· +1) (ih h2)
theorem kw_ok{env:Env}{pos:Pos}{ks:List Keyword}:(backToKw pos (keywordEach ks env)).filterMap (·.1)=ks.filterMap (·.arg)∧(backToKw pos (keywordEach ks env)).isEmpty=ks.isEmpty∧(backToKw pos (keywordEach ks env)).all (·.1.isSome)=ks.all (·.arg.isSome):=by
 induction ks with
 |nil=>exact⟨rfl,rfl,rfl⟩
 |cons k r ih=>
  obtain⟨a,v,p⟩:=k
  refine⟨?_,rfl,congrArg (a.isSome&& ·) ih.2.2⟩
  show List.filterMap (·.1) ((a,_)::backToKw pos (keywordEach r env))=_
  rw [List.filterMap_cons,List.filterMap_cons,ih.1]
end
section
variable {w:World}{P:Prims}{d:Nat}{V:Task→Prop}{fr:FrS}{st:St}{z z1:Z}{env:Env}{A:Around}{E:Value→Shared→Prop}{α β:Type}{rel:Y→β→α→Prop}{K:β→St→Prop}
theorem Sound.ap1(S:Sound w P d){o x v}{K:KV}(h:ap (P.op o [x] z.st) K)(q:VRel z.y x v):OpW w d K z o [v]:=by
 obtain⟨t,e,k⟩:=zr h;exact S.op _ _ _ _ _ _ e k (.cons q .nil)
theorem Sound.ap2(S:Sound w P d){o x v x2 v2}{K:KV}(h:ap (P.op o [x,x2] z.st) K)(q:VRel z.y x v)(q2:VRel z.y x2 v2):OpW w d K z o [v,v2]:=by
 obtain⟨t,e,k⟩:=zr h;exact S.op _ _ _ _ _ _ e k (.cons q (.cons q2 .nil))
theorem Sound.ap3(S:Sound w P d){o x v x2 v2 x3 v3}{K:KV}(h:ap (P.op o [x,x2,x3] z.st) K)(q:VRel z.y x v)(q2:VRel z.y x2 v2)(q3:VRel z.y x3 v3):OpW w d K z o [v,v2,v3]:=by
 obtain⟨t,e,k⟩:=zr h;exact S.op _ _ _ _ _ _ e k (.cons q (.cons q2 (.cons q3 .nil)))
theorem tru_go{x v}{K:KT}{Q:Bool→Shared→Prop}(h:truK x z.st K)(ok:Ok w z)(q:VRel z.y x v)(k:∀z' s b,Step z z'→Ok w z'→K s b z'.st→Q b z'.s):wpAny (model pw w) A (truthy v) Q E z.s:=by
 obtain⟨p,e,h⟩:=zr h
 exact tru_ok e ok q fun tk=>have S:Step z (z.sh {z.s with toks:=tk}):=ok.rep.grow (fun _ _ e=>e) (.same rfl rfl);k (z.sh {z.s with toks:=tk}) p.1 p.2 S (S.ok ok) h
theorem truth{x v}{K:KT}{z0:Z}(h:truK x z.st K)(ok:Ok w z)(q:VRel z.y x v)(S:Step z0 z):wpAny (model pw w) A (truthy v) (Post BRel K.u z0) E z.s:=
 tru_go h ok q fun z1 s b S1 _ k=>.mk (b:=(s,b)) (S.trans S1) rfl k
theorem xa{s b u:Bool}{t e:Prop}{X Y:Prop}(h:way s b t e)(q:b=u)(ht:t→X)(he:e→Y):(u=true→X)∧(u=false→Y):=
 ⟨fun c=>ht ((way_of h).1 (q.trans c)),fun c=>he ((way_of h).2 (q.trans c))⟩
theorem ite_p{u:Bool}{X Y:Prop}(h:(u=true→X)∧(u=false→Y)):if u=true then X else Y:=by
 cases u with
 |true=>exact h.1 rfl
 |false=>exact h.2 rfl
variable (IH:∀t,V t→zW w P d t)
include IH
theorem s_Es{es}{K:KL}(h:stp w P V (.Es es fr st K)):zW w P d (.Es es fr st K):=by
 rintro z env pos rfl ev A E ha ok
 induction es using List.casesOn with
 |nil=>exact spliced_nil (ok.rep.end .nil h)
 |cons e es=>
  have h:=zm h
  exact spliced_more ((IH _ h.2 z env rfl ev).go ok ha fun z1 v u S o q k=>(IH _ k z1 env pos rfl (S.env ev)).go o ha fun z2 vs us S2 _ q2 k2=>.mk (S.trans S2) (.cons (S2.val q) q2) k2) (ym h.1)
theorem s_Ks{ks}{K:List (Str×SV)→St→Prop}(h:stp w P V (.Ks ks fr st K)):zW w P d (.Ks ks fr st K):=by
 rintro z env pos rfl ev A E ha ok
 induction ks using List.casesOn with
 |nil=>exact wpAny_evalAll_nil (ok.rep.end (rel:=KRel []) .nil h)
 |cons e es=>
  obtain⟨x,e,p⟩:=e
  induction x with
  |none=>exact h.elim
  |some x=>exact wpAny_evalAll_cons (wpAny_bind ((IH _ h z env rfl ev).go ok ha fun z1 v u S o q k=>wpAny_bind (wpAny_standAt (wpAny_pure ((IH _ k z1 env pos rfl (S.env ev)).go o ha fun z2 vs us S2 _ q2 k2=>.mk (rel:=KRel _) (S.trans S2) (.cons (S2.val q) q2) k2)))))
theorem s_T(S0:Sound w P d){e}{K:KT}(h:stp w P V (.T e fr st K)):zW w P d (.T e fr st K):=by
 rintro z env rfl ev A E ha ok
 have plain:(∀whole,isTrue e env whole=(do let v←whole;standAt e.pos;holding [v] (truthy v)))→V (.E e fr z.st fun v st1=>truK v st1 K)→wpAny (model pw w) A (isTrue e env (eval e env)) (Post BRel K.u z) E z.s:=fun q h=>
  wpAny_isTrue_value ((IH _ h z env rfl ev).go ok ha fun z1 v u S o q k=>truth k o q S) (q _)
 induction e using Expr.casesOn with
 |UnaryOp op x p=>
  induction op with
  |Not=>exact wpAny_isTrue_Not ((IH _ h z env rfl ev).go ok ha fun z1 b u S o q k=>.mk (b:=(b.1,!b.2)) S (congrArg not q) k)
  |_=>exact plain (fun _=>rfl) h
 |BoolOp op es p=>exact wpAny_isTrue_BoolOp (IH _ h z env rfl ev A E ha ok)
 |IfExp t b o p=>
  exact isTrue_IfExp ((IH _ h z env rfl ev).go ok ha fun z1 b u S o q k=>ite_p (xa k q (fun k=>(IH _ k z1 env rfl (S.env ev)).last o ha S) fun k=>(IH _ k z1 env rfl (S.env ev)).last o ha S))
 |Compare l ops rs p=>
  clear plain
  rcases ops with _|⟨op,_|⟨_,_⟩⟩
  ·exact h.elim
  ·rcases rs with _|⟨rr,_|⟨_,_⟩⟩
   ·exact h.elim
   ·have h:=zm h
    exact wpAny_isTrue_Compare1 ((IH _ h.2 z env rfl ev).go ok ha fun z1 a u S o q k=>(IH _ k z1 env rfl (S.env ev)).go o ha fun z2 b u2 S2 o2 q2 k2=>(show W w d VRel _ z2 _ from S0.ap2 k2 (S2.val q) q2).go o2 ha fun z3 c u3 S3 o3 q3 k3=>
     truth k3 o3 q3 ((S.trans S2).trans S3)) (by rw [Bool.not_eq_true']at h;exact h.1)
   ·exact h.elim
  ·exact h.elim
 |_=>exact plain (fun _=>rfl) h
theorem s_TA{op es}{K:KT}(h:stp w P V (.TA op es fr st K)):zW w P d (.TA op es fr st K):=by
 rintro z env rfl ev A E ha ok
 induction es using List.casesOn with
 |nil=>exact wpAny_pure (ok.rep.end (b:=(false,op== .And)) rfl h)
 |cons e es=>
  induction op with
  |And=>exact wpAny_allTrue_And_cons ((IH _ h z env rfl ev).go ok ha fun z1 b u S o q k=>ite_p (xa k q (fun k=>(IH _ k z1 env rfl (S.env ev)).last o ha S) fun k=>.mk (b:=(false,false)) S rfl k))
  |Or=>exact wpAny_allTrue_Or_cons ((IH _ h z env rfl ev).go ok ha fun z1 b u S o q k=>ite_p (xa k q (fun k=>.mk (b:=(false,true)) S rfl k) fun k=>(IH _ k z1 env rfl (S.env ev)).last o ha S))
theorem s_Ifs{es}{K:KT}(h:stp w P V (.Ifs es fr st K)):zW w P d (.Ifs es fr st K):=by
 rintro z env rfl ev A E ha ok
 rcases es with _|⟨e,_|⟨_,_⟩⟩
 ·exact wpAny_pure (ok.rep.end (b:=(false,true)) rfl h)
 ·exact wpAny_tests_one (IH _ h z env rfl ev A E ha ok)
 ·exact h.elim
theorem s_As{es vs}{K:KS}(h:stp w P V (.As es vs fr st K)):zW w P d (.As es vs fr st K):=by
 rintro z env us hs rfl ev q A E ha ok
 rcases es with _|⟨e,es⟩
 ·rcases vs with _|⟨_,_⟩
  ·exact wpAny_pure (.u (.refl ok.rep) h)
  ·exact h.elim
 ·rcases vs with _|⟨v,vs⟩
  ·exact h.elim
  ·obtain⟨u,us,rfl,q1,q2⟩:=q.cons_inv
   rw [yj (yr hs).1]
   exact wpAny_bind (wpAny_holding ((IH _ h z env u rfl ev q1).go ok ha fun z1 _ _ S o _ k=>(IH _ k z1 env us (yr hs).2 rfl (S.env ev) (S.vals q2)).last o ha S))
theorem s_Ss{es}{K:KF}(h:stp w P V (.Ss es fr st K)):zW w P d (.Ss es fr st K):=by
 rintro z env rfl ev A E ha ok
 induction es using List.casesOn with
 |nil=>exact wpAny_execs_nil (ok.rep.end .next h)
 |cons e es=>
  refine wpAny_execs_cons ((IH _ h z env rfl ev).go ok ha fun z1 b u S o q k=> ?_)
  cases q with
  |next=>exact(IH _ k z1 env rfl (S.env ev)).last o ha S
  |brk=>exact .mk S .brk k
  |cont=>exact .mk S .cont k
  |ret q=>exact .mk S (.ret q) k
theorem s_A(S0:Sound w P d){e v}{K:KS}(h:stp w P V (.A e v fr st K)):zW w P d (.A e v fr st K):=by
 rintro z env u rfl ev q A E ha ok
 induction e using Expr.casesOn with
 |Name x p=>exact wpAny_assign_Name (write_ok (w:=w) (d:=d) h ev q A E ha ok)
 |Attribute o a p=>
  exact wpAny_bind (wpAny_holding ((IH _ h z env rfl ev).go ok ha fun z1 x xv S o q1 k=>wpAny_bind (wpAny_standAt (wpAny_bind (wpAny_holding (wm ((show W w d URel _ z1 _ from S0.ap2 k q1 (S.val q)).last o ha S) fun _ _ p=>wpAny_release p))))))
 |Subscript o i p=>
  exact wpAny_bind (wpAny_holding ((IH _ h z env rfl ev).go ok ha fun z1 x xv S o q1 k=>wpAny_bind (wpAny_holding ((IH _ k z1 env rfl (S.env ev)).go o ha fun z2 j jv S2 o2 q2 k2=>
   wpAny_bind (wpAny_standAt (wpAny_bind (wpAny_holding (wm ((show W w d URel _ z2 _ from S0.ap3 k2 (S2.val q1) q2 ((S.trans S2).val q)).last o2 ha (S.trans S2)) fun _ _ p=>wpAny_release p))))))))
 |Tuple es k p=>
  have q:=q.inv
  induction v using SV.casesOn with
  |tup vs=>
   have h:=zm h
   obtain⟨h1,h2⟩:=zx h.1
   cases q with
   | @mk a us kk qa qb=>
    have hl:us.size=es.length:=Array.length_toList.symm.trans (qb.length.symm.trans (Nat.eq_of_beq_eq_true h2))
    refine wpAny_bind (wpAny_standAt (wpAny_unpack_tuple ha.1 (items:=us) ⟨_,ok.rep.sub _ _ qa,rfl,kk,rfl⟩ (by rw [assign_len h1,hl]) (star_ok (pos:=p) h1).2.2 fun h' hx=> ?_))
    have S:Step z (z.hp h'):=ok.rep.grow (s:={z.s with heap:=h'}) (fun b o e=>hx b o (Nat.ne_of_lt (Heap.lt_size e)) e) .heap
    exact(IH _ h.2 (z.hp h') env _ h1 rfl ev qb).last (S.ok ok) ha S
  |_=>exact h.elim
 |_=>exact h.elim
end
section
variable {w:World}{P:Prims}{d:Nat}{V:Task→Prop}{fr:FrS}{st:St}{z z1:Z}{env:Env}{A:Around}{E:Value→Shared→Prop}
theorem Rep.push_tup(r:Rep z){xs:List SV}{vs:List Value}(q:VRels z.y xs vs){K:KV}(k:K (.tup xs) z.st):
  Post VRel K z (.ref z.new) {z.s with heap:=z.s.heap.push {cls:= .type "tuple",data:= .seq vs.toArray}}:=
 have S:=r.pushG (tupO vs.toArray 0) rfl
 .mk S (.tup (vs:=vs.toArray) (k:=0) (if_pos rfl) (S.vals q)) k
theorem Rep.push_list(r:Rep z){xs:List SV}{vs:List Value}(q:VRels z.y xs vs){K:KV}(k:K (.ref z.st.nx) (z.st.push (.list xs))):
  Post VRel K z (.ref z.new) {z.s with heap:=z.s.heap.push {cls:= .type "list",data:= .seq vs.toArray}}:=
 .mk (r.pushO (o:=listOf vs.toArray 0) (so:= .list xs) rfl (.list q)) (.refE (Nat.lt_succ_self z.st.nx) zQ) k
variable (S0:Sound w P d)(IH:∀t,V t→zW w P d t)
include S0 IH
theorem s_call{f:SV}{first:List SV}{es:List Expr}{ks:List Keyword}{K:KV}(hk:(yV es&&ks.all (·.arg.isSome))=true)
  (h:V (.Es es fr z.st fun vs st2=>V (.Ks ks fr st2 fun kvs st3=>zI (keeps0 w f) (ap (P.call f (first++vs) kvs st3) K))))
  {fv fvs} (pos:Pos) (ev:EnvOk z.y fr env) (qf:VRel z.y f fv) (qs:VRels z.y first fvs):W w d VRel K z (callWith pos fv fvs (backTo pos (starEach es env)) (backToKw pos (keywordEach ks env))):=fun A E ha ok=>by
 obtain⟨h1,h2⟩:=zx hk
 refine yG (star_ok h1).1 (kw_ok.2.2.trans h2) ((IH _ h z env pos rfl ev).go ok ha fun z1 vs us S o q k=>(IH _ k z1 env pos rfl (S.env ev)).go o ha fun z2 kvs ku S2 o2 q2 k2=> ?_)
 have SS:=S.trans S2
 have k2:=zm k2
 obtain⟨t,e,kt⟩:=zr k2.2
 obtain⟨κ,hκ⟩:=keeps_ok k2.1 o2 (SS.val qf)
 rw [kw_ok.1]
 exact⟨⟨κ,hκ A E⟩,(S0.call _ _ _ _ _ _ _ _ _ e kt (SS.val qf) ((SS.vals qs).append (S2.vals q)) q2).last o2 ha SS⟩
theorem s_method{o a apos es ks pos}{K:KV}(ho:notCall o=true)(hk:(yV es&&ks.all (·.arg.isSome))=true)(hp:(apos.endLine==pos.line)=true)
  (hl:(decide (es.length+ks.length+(if ks.isEmpty then 0 else 1)<30))=true)
  (h:V (.E o fr z.st fun x st1=>zg (P.meth x a st1) fun p=>V (.Es es fr st1 fun vs st3=>V (.Ks ks fr st3 fun kvs st4=>zI (keeps0 w p.1) (ap (P.call p.1 (p.2++vs) kvs st4) K))))) (ev:EnvOk z.y fr env):
  W w d VRel K z (eval (.Call (.Attribute o a apos) es ks pos) env):=fun A E ha ok=>by
 rw [arm_eval_Call,wV ho]
 refine wpAny_bind ((IH _ h z env rfl ev).go ok ha fun z1 x xv S o q k=>wpAny_bind (wpAny_standAt ?_))
 obtain⟨⟨f,xs⟩,e,k⟩:=zr k
 obtain⟨h1,h2⟩:=zx hk
 have hform:methodCallForm (es.length+ks.length) (backTo pos (starEach es env)) (backToKw pos (keywordEach ks env))=true:=by
  unfold methodCallForm
  rw [(star_ok h1).2.1,kw_ok.2.2,h2,kw_ok.2.1];exact hl
 unfold methodCall calleeOf methodCallPos
 rw [hform,hp]
 exact wpAny_bind (wpAny_holding (S0.meth _ _ _ _ _ _ _ _ _ _ e o q fun fv fvs qf qs=>wpAny_bind (wpAny_pure ((s_call S0 IH hk k pos (S.env ev) qf qs).last o ha S))))
end
theorem asSlc_some{i:Expr}{p}(h:(asSlc i).1=some p):∃q,i= .Slice p.1 p.2 none q:=by
 induction i using Expr.casesOn with
 |Slice l u s q=>induction s using Option.casesOn with
  |none=>cases h;exact⟨q,rfl⟩
  |some=>exact(zu rfl h).elim
 |_=>exact(zu rfl h).elim
theorem asSlc_plain{i:Expr}(h:(asSlc i).2=true)(xv iv:Value):subscripted i false xv iv=operate [xv,iv] (getItem xv iv):=by
 induction i using Expr.casesOn with
 |Slice l u s q=>induction s using Option.casesOn<;>exact Bool.noConfusion h
 |_=>rfl
theorem asAtt_some{f:Expr}{p}(h:asAtt f=some p):f= .Attribute p.1 p.2.1 p.2.2:=by
 induction f using Expr.casesOn with
 |Attribute=>cases h;rfl
 |_=>exact(zu rfl h).elim
theorem asAtt_none{f:Expr}(h:asAtt f=none){es ks p env}:eval (.Call f es ks p) env=(do callWith p (←eval f env) [] (backTo p (starEach es env)) (backToKw p (keywordEach ks env))):=by
 induction f using Expr.casesOn with
 |Attribute=>exact nomatch h
 |_=>rfl
section
variable {w:World}{P:Prims}{d:Nat}{V:Task→Prop}{fr:FrS}{st:St}{z z1:Z}{env:Env}{A:Around}{E:Value→Shared→Prop}
variable (S0:Sound w P d)(IH:∀t,V t→zW w P d t)
include IH
theorem s_Eo{e}{K:KV}(h:stp w P V (.Eo e fr st K)):zW w P d (.Eo e fr st K):=by
 rintro z env rfl ev A E ha ok
 induction e with
 |none=>exact wpAny_pure (ok.rep.end .non h)
 |some e=>exact IH _ h z env rfl ev A E ha ok
include S0
theorem s_sub{o i p}{K:KV}(h:stp w P V (.E (.Subscript o i p) fr z.st K))(ev:EnvOk z.y fr env):W w d VRel K z (eval (.Subscript o i p) env):=fun A E ha ok=>by
 refine Subscript_ ?_
 rcases xE h with⟨⟨l,u⟩,e,h⟩|⟨_,h⟩
 ·obtain⟨q,rfl⟩:=asSlc_some e
  refine(IH _ h z env rfl ev).go ok ha fun z1 x xv S o q k=>wpAny_Slice ((IH _ k z1 env rfl (S.env ev)).go o ha fun z2 a av S2 o2 q2 k2=>(IH _ k2 z2 env rfl ((S.trans S2).env ev)).go o2 ha fun z3 b bv S3 o3 q3 k3=>wpAny_pure ?_)
  have S4:=o3.rep.pushG (wY "slice" #[av,bv,.none]) rfl
  obtain⟨h1,h0⟩:OpW w d K _ .sub _:=S0.ap2 (z:={z3.hp (z3.s.heap.push (wY "slice" #[av,bv,.none]))with G:=xm z3.G z3.new (wY "slice" #[av,bv,.none])}) k3 (S4.val (S3.val (S2.val q))) (.slc (if_pos rfl) (S4.val (S3.val q2)) (S4.val q3))
  obtain⟨T,id,h2,h4⟩:=h0 (S4.ok o3)
  exact tail_any h2 h4 (h1.last (S4.ok o3) ha (((S.trans S2).trans S3).trans S4)) rfl
 ·have h:=zm h
  refine(IH _ h.2 z env rfl ev).go ok ha fun z1 x xv S o q k=>(IH _ k z1 env rfl (S.env ev)).go o ha fun z2 j jv S2 o2 q2 k2=> ?_
  obtain⟨h1,h0⟩:OpW w d K _ .sub _:=S0.ap2 k2 (S2.val q) q2
  obtain⟨T,id,h2,h4⟩:=h0 o2
  exact tail_any h2 h4 (h1.last o2 ha (S.trans S2)) (asSlc_plain h.1 _ _)
theorem s_Call{f es ks p}{K:KV}(h:stp w P V (.E (.Call f es ks p) fr z.st K))(ev:EnvOk z.y fr env):W w d VRel K z (eval (.Call f es ks p) env):=by
 rcases xE h with⟨t,e,h⟩|⟨_,h⟩
 ·exact S0.special _ _ _ _ _ _ e h ev
 ·obtain⟨hk,h⟩:=zm h
  rcases xE h with⟨q,e,h⟩|⟨e,h⟩
  ·obtain⟨h1,h⟩:=zm h
   obtain⟨h1,h3⟩:=zx h1
   obtain⟨h1,h2⟩:=zx h1
   rw [asAtt_some e]
   exact s_method S0 IH h1 hk h2 h3 h ev
  ·rw [asAtt_none e]
   exact fun A E ha ok=>wpAny_bind ((IH _ h z env rfl ev).go ok ha fun z1 x xv S o q k=>(s_call (first:=[]) S0 IH hk k p (S.env ev) q .nil).last o ha S)
theorem s_E(LC:∀a b c p K z env,stp w P V (.E (.ListComp a b c p) fr z.st K)→EnvOk z.y fr env→W w d VRel K z (eval (.ListComp a b c p) env)){e}{K:KV}(h:stp w P V (.E e fr st K)):zW w P d (.E e fr st K):=by
 rintro z env rfl ev A E ha ok
 induction e using Expr.casesOn with
 |Constant c k p=>
  induction c with
  |int i=>exact wpAny_Constant_int (ok.rep.endT .num h)
  |str i=>exact wpAny_Constant_str (ok.rep.endT .str h)
  |bool i=>exact wpAny_Constant_bool (ok.rep.end .tf h)
  |none=>exact wpAny_Constant_none (ok.rep.end .non h)
  |_=>exact h.elim
 |Name x p=>
  have h:=zm h
  obtain⟨v,e,k⟩:=zr h.2
  exact wpAny_Name (yX e ok ev fun u q=>ok.rep.end q k) ((Bool.not_eq_true' _).mp h.1)
 |BinOp l op rr p=>
  exact wpAny_BinOp ((IH _ h z env rfl ev).go ok ha fun z1 a u S o q k=>(IH _ k z1 env rfl (S.env ev)).go o ha fun z2 b u2 S2 o2 q2 k2=>(show W w d VRel _ z2 _ from S0.ap2 k2 (S2.val q) q2).last o2 ha (S.trans S2))
 |UnaryOp op x p=>
  have un:∀op,V (.E x fr z.st fun a st1=>ap (P.op (.una op) [a] st1) K)→wpAny (model pw w) A (eval x env) (fun v s₁=>wpAny (model pw w) A (unaryOp op v) (Post VRel K z) E s₁) E z.s:=fun op h=>
   (IH _ h z env rfl ev).go ok ha fun z1 a u S o q k=>(show W w d VRel _ z1 _ from S0.ap1 k q).last o ha S
  refine wpAny_UnaryOp ?_
  induction op with
  |Not=>
   exact(IH _ h z env rfl ev).go ok ha fun z1 a u S o q k=>not_value (tru_go k o q fun z2 _ _ S2 _ k=>.mk (S.trans S2) .tf k)
  |_=>exact un _ h
 |IfExp t b o p=>
  exact wpAny_IfExp ((IH _ h z env rfl ev).go ok ha fun z1 b u S o q k=>ite_p (xa k q (fun k=>(IH _ k z1 env rfl (S.env ev)).last o ha S) fun k=>(IH _ k z1 env rfl (S.env ev)).last o ha S))
 |BoolOp op es p=>
  rcases es with _|⟨x,_|⟨y,_|⟨_,_⟩⟩⟩
  ·exact h.elim
  ·exact h.elim
  ·induction op with
   |And=>
    exact wpAny_And2 ((IH _ h z env rfl ev).go ok ha fun z1 a u S o q k=>tru_go k o q fun z2 s b S2 o2 k=>have SS:=S.trans S2
     ite_p (xa k rfl (fun k=>(IH _ k z2 env rfl (SS.env ev)).last o2 ha SS) fun k=>.mk SS (S2.val q) k))
   |Or=>
    exact wpAny_Or2 ((IH _ h z env rfl ev).go ok ha fun z1 a u S o q k=>tru_go k o q fun z2 s b S2 o2 k=>have SS:=S.trans S2
     ite_p (xa k rfl (fun k=>.mk SS (S2.val q) k) fun k=>(IH _ k z2 env rfl (SS.env ev)).last o2 ha SS))
  ·exact h.elim
 |Compare l ops rs p=>
  rcases ops with _|⟨op,_|⟨_,_⟩⟩
  ·exact h.elim
  ·rcases rs with _|⟨rr,_|⟨_,_⟩⟩
   ·exact h.elim
   ·have h:=zm h
    exact wpAny_Compare1 ((IH _ h.2 z env rfl ev).go ok ha fun z1 a u S o q k=>(IH _ k z1 env rfl (S.env ev)).go o ha fun z2 b u2 S2 o2 q2 k2=>(show W w d VRel _ z2 _ from S0.ap2 k2 (S2.val q) q2).last o2 ha (S.trans S2)) ((Bool.not_eq_true' _).mp h.1)
   ·exact h.elim
  ·exact h.elim
 |Attribute o a p=>
  have h:=zm h
  rw [arm_eval_Attribute,wV h.1]
  exact wpAny_bind ((IH _ h.2 z env rfl ev).go ok ha fun z1 x xv S o q k=>wpAny_bind (wpAny_standAt (wpAny_bind (wpAny_holding (wm ((show W w d VRel _ z1 _ from S0.ap1 k q).last o ha S) fun _ _ p=>wpAny_bind (wpAny_letTemporaryGo (wpAny_pure p)))))))
 |Subscript o i p=>exact s_sub S0 IH h ev A E ha ok
 |List es p=>
  exact wpAny_List ((IH _ h z env p rfl ev).go ok ha fun z1 xs us S o q k=>⟨q.length▸Nat.le_of_ble_eq_true (zm k).1,(o.rep.push_list q (zm k).2).from S⟩)
 |Tuple es kk p=>
  exact wpAny_Tuple ((IH _ h z env p rfl ev).go ok ha fun z1 xs us S o q k=>⟨q.length▸Nat.le_of_ble_eq_true (zm k).1,(o.rep.push_tup q (zm k).2).from S⟩)
 |Call f es ks p=>exact s_Call S0 IH h ev A E ha ok
 |Dict a b p=>
  obtain⟨t,e,k⟩:=zr h
  exact S0.special _ _ _ _ _ _ e k ev A E ha ok
 |ListComp a b c p=>exact LC a b c p K z env h ev A E ha ok
 |_=>exact h.elim
end
set_option tactic.hygienic true
theorem xw{t:Expr}(h:(xo t).isSome=true):∃i p,t= .Name i p:=by
 induction t using Expr.casesOn with
 |Name i p=>exact⟨i,p,rfl⟩
 |_=>exact Bool.noConfusion h
section
variable {w:World}{P:Prims}{d:Nat}{fr:FrS}{z z1 zb:Z}{env:Env}{A:Around}{E:Value→Shared→Prop}{n:Nat}
theorem turn_go{m:Nat}{K K':KF}{b:List Stmt}{Inv:Nat→Shared→Prop}(IH:∀t,vc w P m t→zW w P d t)(h:vc w P m (.Ss b fr z.st K'))(ok:Ok w z)(ha:AOk d A)(ev:EnvOk z.y fr env)
  (kn:∀z1,Step z z1→Ok w z1→K' .next z1.st→Inv m z1.s) (kc:∀z1,Step z z1→Ok w z1→K' .cont z1.st→Inv m z1.s) (kb:∀st,K' .brk st→K .next st) (kr:∀v st,K' (.ret v) st→K (.ret v) st) (S0:Step zb z) {N:Value→Shared→Prop}:
  wpAny (model pw w) A (execs b env) (fun f s=>match f with
   | .next=>∃m',m'<m+1∧Inv m' s
   | .cont=>∃m',m'<m+1∧Inv m' s
   | .brk=>Post FRel K zb .next s
   | .ret v=>Post FRel K zb (.ret v) s) N z.s:=
 (IH _ h z env rfl ev).go ok ha fun z1 f u S o q k=>by
  cases q with
  |next=>exact⟨m,Nat.lt_succ_self m,kn z1 S o k⟩
  |cont=>exact⟨m,Nat.lt_succ_self m,kc z1 S o k⟩
  |brk=>exact .mk (S0.trans S) .next (kb _ k)
  |ret q=>exact .mk (S0.trans S) (.ret q) (kr _ _ k)
inductive ForI(w:World)(P:Prims)(d:Nat)(A:Around)(zb:Z)(x:SV)(it:Value)(fr:FrS)(env:Env)(t:Expr)(b:List Stmt)(K:KF)(n m:Nat):Shared→Prop
 |mk {k} {z1:Z}:LInv w d zb x it k z1→EnvOk z1.y fr env→m≤n→vc w P m (.For t x k b fr z1.st K)→ForI w P d A zb x it fr env t b K n m z1.s
inductive WhI(P:Prims)(z0:Z)(fr:FrS)(t:Expr)(b:List Stmt)(K:KF)(n m:Nat):Shared→Prop
 |mk {z1:Z}:Step z0 z1→m≤n→vc w P m (.Wh t b fr z1.st K)→WhI P z0 fr t b K n m z1.s
theorem s_For{i tp}(IH:IHn w P d (n+1)){x b}{K:KF}(h:vc w P n (.For (.Name i tp) x 0 b fr z.st K)){it}(ha:AOk d A)(ok:Ok w zb)(L:LInv w d zb x it 0 z)(ev:EnvOk z.y fr env):
  codeAny (model pw w) A (.forLoop (.Name i tp) it b [] env) (xr w A env E K zb) z.s:=by
 refine codeAny_forLoop (ForI w P d A zb x it fr env (.Name i tp) b K n) (fun m s hI=> ?_) n (.mk L ev (Nat.le_refl _) h) (fun _=>rfl)
 rcases hI with⟨L,ev,hm,h⟩
 rename_i k z
 rcases m with _|m
 ·exact h.elim
 ·have IH:∀t,vc w P m t→zW w P d t:=IH m (Nat.lt_of_lt_of_le hm (Nat.le_succ n))
  obtain⟨o,hi,h⟩:=zr h
  refine L.turn ha (L.step.ok ok) hi (fun q G s S=> ?_) fun v u G s q L hv=> ?_
  ·subst q
   exact wpAny_execs_nil (.mk S .next h)
  ·subst q
   exact(IH _ h ⟨G,z.ρ,z.st,s⟩ env u rfl ev.mv hv).go (L.step.ok ok) ha fun z2 _ _ S2 o2 _ k2=>
    have L2:=L.go S2
    have ev2:=S2.env (z:=⟨G,z.ρ,z.st,s⟩) ev.mv
    turn_go (K:=K) (Inv:=ForI w P d A zb x it fr env (.Name i tp) b K n) IH k2 o2 ha ev2 (fun z3 S3 o3 k3=>.mk (L2.go S3) (S3.env ev2) (Nat.le_of_succ_le hm) k3) (fun z3 S3 o3 k3=>.mk (L2.go S3) (S3.env ev2) (Nat.le_of_succ_le hm) k3) (fun _ k=>k) (fun _ _ k=>k) L2.step
theorem s_Wh(IH:IHn w P d (n+1)){t b}{K:KF}(h:vc w P n (.Wh t b fr z.st K))(ha:AOk d A)(ok:Ok w z)(ev:EnvOk z.y fr env):
  codeAny (model pw w) A (.whileLoop t b [] env) (xr w A env E K z) z.s:=by
 refine codeAny_whileLoop (WhI P z fr t b K n) (fun m s hI=> ?_) n (.mk (.refl ok.rep) (Nat.le_refl _) h)
 rcases hI with⟨S1,hm,h⟩
 rename_i z1
 rcases m with _|m
 ·exact h.elim
 ·have IH:∀t,vc w P m t→zW w P d t:=IH m (Nat.lt_of_lt_of_le hm (Nat.le_succ n))
  exact(IH _ h z1 env rfl (S1.env ev)).go (S1.ok ok) ha fun z2 c u S2 o2 q k=>ite_p (xa k q (fun k=>
   have SS:=S1.trans S2
   turn_go (K:=K) (Inv:=WhI P z fr t b K n) IH k o2 ha (SS.env ev) (fun z3 S3 _ k3=>.mk (SS.trans S3) (Nat.le_of_succ_le hm) k3) (fun z3 S3 _ k3=>.mk (SS.trans S3) (Nat.le_of_succ_le hm) k3) (fun _ k=>k) (fun _ _ k=>k) SS) fun k=>wpAny_execs_nil (.mk (S1.trans S2) .next k))
end
set_option tactic.hygienic false
noncomputable def bindsF(fr:FrS):List (Str×SV)→St→KS→Prop
 | [],st,K=>K st
 |(x,v)::r,st,K=>yD fr st x v fun st1=>bindsF fr r st1 K
noncomputable def newF(code:Value)(scope:Scope)(cl:List (Str×Nat))(c:String)(bs:List (Str×SV))(st:St)(K:FrS→St→Prop):Prop:=
 match yf scope.names cl (st.push (.ns c []))with
 |(cells,st1)=>bindsF ⟨st.nx,cells,scope,code⟩ bs st1 (K ⟨st.nx,cells,scope,code⟩)
section
variable {w:World}{d:Nat}{M:Model}{A:Around}{E:Value→Shared→Prop}{z z1:Z}{fr:FrS}{env:Env}
noncomputable abbrev atA(ρ:Nat→Addr)(cs:List (Str×Nat)):List (Str×Addr):=cs.map fun p=>(p.1,ρ p.2)
theorem atA_mono{ρ ρ':Nat→Addr}{n:Nat}{cs:List (Str×Nat)}(h:∀p∈cs,p.2<n)(hr:∀i,i<n→ρ' i=ρ i):atA ρ cs=atA ρ' cs:=
 List.map_congr_left fun p hp=>congrArg (p.1,·) (hr p.2 (h p hp)).symm
theorem Post.uto{K:KS}{Q:Unit→Shared→Prop}{t:Sem Unit}(h:wpAny M A t (Post URel K.u z) E z.s)(k:∀z1,Step z z1→K z1.st→Q () z1.s):wpAny M A t Q E z.s:=
 wm h fun _ _ p=>by cases p with|mk S _ h=>exact k _ S h
theorem lay_ok(f:Str×NameKind→List (Str×Addr)→Sem (ForInStep (List (Str×Addr))))
  (hf:∀name kind cells,f (name,kind) cells=if kind== .cell then(do let a←alloc {cls:= .type "cell",data:= .cell none};pure (.yield ((name,a)::cells)))else pure (.yield cells)) {Q:List (Str×Addr)→Shared→Prop} (names:List (Str×NameKind)):
  ∀(cs:List (Str×Nat)) (z:Z),Rep z→(∀p∈cs,p.2<z.st.nx)→
   (∀z1,Step z z1→z1.st=(yf names cs z.st).2→(∀p∈(yf names cs z.st).1,p.2<z1.st.nx)→Q (atA z1.ρ (yf names cs z.st).1) z1.s)→wpAny M A (forIn names (atA z.ρ cs) f) Q E z.s:=by
 induction names with
 |nil=>exact fun cs z r hc h=>by rw [List.forIn_nil];exact wpAny_pure (h z (.refl r) rfl hc)
 |cons p names ih=>
  intro cs z r hc h
  obtain⟨x,k⟩:=p
  rw [List.forIn_cons,hf]
  by_cases hk:k= .cell
  ·subst hk
   rw [if_pos (by rfl)]
   have S:=r.pushO (o:={cls:= .type "cell",data:= .cell none}) (so:= .cell none) rfl (.cellN rfl)
   have e:(x,z.new)::atA z.ρ cs=atA (xM z.ρ z.st.nx z.new) ((x,z.st.nx)::cs):=by
    rw [atA_mono hc fun i hi=>xg (a:=z.new) hi];exact congrArg (fun a=>(x,a)::_) zQ.symm
   refine wpAny_bind (wpAny_bind (wpAny_alloc (wpAny_pure ?_)))
   dsimp only
   rw [e]
   exact ih ((x,z.st.nx)::cs) _ S.rep (List.forall_mem_cons.mpr ⟨Nat.lt_succ_self _,fun p hp=>Nat.lt_succ_of_lt (hc p hp)⟩) fun z1 S1 e1 hc1=>h z1 (S.trans S1) e1 hc1
  ·rw [if_neg (by rw [beq_false_of_ne hk];exact Bool.false_ne_true)]
   have e:yf ((x,k)::names) cs z.st=yf names cs z.st:=by
    induction k with
    |cell=>exact(hk rfl).elim
    |_=>rfl
   rw [e]at h
   exact wpAny_bind (wpAny_pure (ih cs z r hc h))
theorem binds_ok(f:Str×Value→PUnit→Sem (ForInStep PUnit))(hf:∀n v u,f (n,v) u=(do storeName env n v;pure (.yield ⟨⟩))){bs:List (Str×SV)}{K:KS}{Q:PUnit→Shared→Prop}:
  ∀{bv:List (Str×Value)} {z},bindsF fr bs z.st K→Rep z→EnvOk z.y fr env→FRels z.y bs bv→(∀z1,Step z z1→K z1.st→Q ⟨⟩ z1.s)→wpAny M A (forIn bv ⟨⟩ f) Q E z.s:=by
 induction bs with
 |nil=>exact fun h r _ q hQ=>by cases q;rw [List.forIn_nil];exact wpAny_pure (hQ _ (.refl r) h)
 |cons p bs ih=>
  intro bv z h r ev q hQ
  cases q with
  |cons a b=>
   rw [List.forIn_cons,hf]
   exact wpAny_bind (wpAny_bind (Post.uto (writeR h r ev a) fun z1 S k=>wpAny_pure (ih k S.rep (S.env ev) (S.fvals b) fun z2 S2 k2=>hQ z2 (S.trans S2) k2)))
noncomputable def w7(around:Option Env)(code:Value):Value:=match around with
 |some o=>o.code
 |none=>code
noncomputable def buAt(around:Option Env)(b:Addr):Addr:=match around with
 |some o=>o.builtins
 |none=>b
structure NewE(z:Z)(around:Option Env)(func:Option Addr)(qual:Str)(code:Value)(env:Env)(fr:FrS):Prop where
 fid:fr.fid=z.st.nx
 func:env.func=func
 qual:env.qual=qual
 at_:∀o,around=some o→env.frame=o.frame
 own:around=none→env.frame=some env.locals
 code:fr.code=w7 around code
 dead:z.s.heap.get? env.locals=none
theorem newEnv_ok{scope:Scope}{cl:List (Str×Nat)}{closure:List (Str×Addr)}{c:String}{bs:List (Str×SV)}{bv:List (Str×Value)}{qual:Str}{func:Option Addr}{code:Value}{around:Option Env}{globals builtins:Addr}{K:FrS→St→Prop}{Q:Env→Shared→Prop}
  (h:newF (w7 around code) scope cl c bs z.st K) (hk:scope.kind= .function) (hg:globals=mainGlobals) (hbi:buAt around builtins=builtinsNs) (r:Rep z) (hcl:closure=atA z.ρ cl) (hcn:∀p∈cl,p.2<z.st.nx) (hbs:FRels z.y bs bv)
  (hQ:∀env fr z1,Step z z1→EnvOk z1.y fr env→NewE z around func qual code env fr→K fr z1.st→Q env z1.s):
  wpAny M A (newFunctionEnv scope globals closure bv qual func code around builtins) Q E z.s:=by
 unfold newFunctionEnv
 refine wpAny_bind (wpAny_alloc ?_)
 have S:=r.pushO (o:={cls:= .type (if around.isSome then "dict" else "frame"),data:= .dict #[]}) (so:= .ns c []) rfl (.ns (l:=[]) ⟨#[],_,rfl,(fun _ h=>nomatch h),fun name=>rfl⟩ FRels.nil.n)
 rw [hcl,atA_mono hcn fun i hi=>xg (a:=z.new) hi]
 refine wpAny_bind (lay_ok _ (fun _ _ _=>rfl) scope.names cl _ S.rep (fun p hp=>Nat.lt_succ_of_lt (hcn p hp)) fun z2 S2 e2 hc2=> ?_)
 have SS:=S.trans S2
 have hlt:z.st.nx<z2.st.nx:=Nat.lt_of_lt_of_le (Nat.lt_succ_self _) S2.le.nx
 have hloc:z.new=z2.ρ z.st.nx:=((S2.le.rho z.st.nx (Nat.lt_succ_self _)).trans zQ).symm
 have h:bindsF ⟨z.st.nx,(yf scope.names cl (z.st.push (.ns c []))).1,scope,w7 around code⟩ bs z2.st (K ⟨z.st.nx,(yf scope.names cl (z.st.push (.ns c []))).1,scope,w7 around code⟩):=e2▸h
 have fin:∀env,EnvOk z2.y ⟨z.st.nx,(yf scope.names cl (z.st.push (.ns c []))).1,scope,w7 around code⟩ env→NewE z around func qual code env ⟨z.st.nx,(yf scope.names cl (z.st.push (.ns c []))).1,scope,w7 around code⟩→
   ∀f:Str×Value→PUnit→Sem (ForInStep PUnit),(∀n v u,f (n,v) u=(do storeName env n v;pure (.yield ⟨⟩)))→wpAny M A (forIn bv ⟨⟩ f) (fun _ s=>wpAny M A (pure env) Q E s) E z2.s:=fun env ev ne f hf=>
  binds_ok f hf h S2.rep ev (SS.fvals hbs) fun z3 S3 k3=>wpAny_pure (hQ _ _ z3 (SS.trans S3) (S3.env ev) ne k3)
 induction around with
 |none=>exact wpAny_bind (fin {scope,locals:=z.new,globals,cells:=atA z2.ρ (yf scope.names cl (z.st.push (.ns c []))).1,qual,func,code,frame:=some z.new,builtins} ⟨rfl,hk,hlt,hloc,rfl,hc2,hg,hbi,rfl⟩ ⟨rfl,rfl,rfl,fun _ q=>(zu rfl q).elim,fun _=>rfl,rfl,zh _⟩ _ fun _ _ _=>rfl)
 |some o=>exact wpAny_bind (fin {scope,locals:=z.new,globals,cells:=atA z2.ρ (yf scope.names cl (z.st.push (.ns c []))).1,qual,func,code:=o.code,frame:=o.frame,builtins:=o.builtins} ⟨rfl,hk,hlt,hloc,rfl,hc2,hg,hbi,rfl⟩ ⟨rfl,rfl,rfl,fun _ q=>Option.some.inj q▸rfl,fun q=>(zu q rfl).elim,rfl,zh _⟩ _ fun _ _ _=>rfl)
end
section
variable {w:World}{A:Around}{R:Result→Shared→Prop}{E:Value→Shared→Prop}{s:Shared}{elt:Expr}{gens:List Comprehension}{scope:Scope}{pos:Pos}{depth:Nat}{it acc:Value}{env:Env}
noncomputable abbrev NB(w:World)(A:Around)(env:Env)(R:Result→Shared→Prop):Value→Shared→Prop:=notedBy (model pw w) A env fun e s'=>R (.error e) s'
noncomputable def TurnOk(w:World)(A:Around)(R:Result→Shared→Prop)(elt:Expr)(gens:List Comprehension)(scope:Scope)(pos:Pos)(depth:Nat)(acc:Value)(env:Env)(I:Shared→Prop)(N:Value→Shared→Prop)(s:Shared):Prop:=match gens[depth+1]? with
 |none=>wpAny (model pw w) A (eval elt env) (fun x s=>wpAny (model pw w) A (call (.builtin "list.append") [acc,x]) (fun _ s=>I s) N s) N s
 |some g'=>g'.is_async=0∧(∀x,foldedSetIterable g'.iter env x=pure x)∧wpAny (model pw w) A (eval g'.iter env) (fun x s=>wpAny (model pw w) A (pyIter x) (fun it' s=>wpAny (model pw w) A (runOwn (.compStart (.ListComp elt gens scope pos) (depth+1) it' acc env) env) (fun _ s=>I s) N s) N s) N s
theorem compTurn_any{target iter:Expr}{ifs:List Expr}(hg:gens[depth]? =some ⟨target,iter,ifs,0⟩):
  compTurn (.ListComp elt gens scope pos) depth it acc env=(do
   standAt iter.pos
   match←pyNext it with
   |none=>pure (.done .next)
   |some v=>
    letOwnedTupleGo target it v
    assign target env v
    let ok←tests ifs env
    if ok=true then
     (match gens[depth+1]? with
     |some g'=>do
      let x←eval g'.iter env
      standAt g'.iter.pos
      if(g'.is_async !=0)=true then do
       let x←foldedIterable g'.iter x
       let _←runOwn (.compStart (.ListComp elt gens scope pos) (depth+1) (←holding [x] (if g'.is_async !=0 then asyncIter x else pyIter x)) acc env) env
       again (.compLoop (.ListComp elt gens scope pos) depth it acc env)
      else do
       let x←foldedSetIterable g'.iter env x
       let _←runOwn (.compStart (.ListComp elt gens scope pos) (depth+1) (←holding [x] (if g'.is_async !=0 then asyncIter x else pyIter x)) acc env) env
       again (.compLoop (.ListComp elt gens scope pos) depth it acc env)
     |none=>do
      (do let _←call (.builtin "list.append") [acc,←eval elt env])
      again (.compLoop (.ListComp elt gens scope pos) depth it acc env))
    else again (.compLoop (.ListComp elt gens scope pos) depth it acc env)):=by
 unfold compTurn
 dsimp only
 rw [hg]
 rfl
theorem compLoop_any{target iter:Expr}{ifs:List Expr}(hg:gens[depth]? =some ⟨target,iter,ifs,0⟩)(I:Nat→Shared→Prop)
  (turn:∀n s,I n s→wpAny (model pw w) A (pyNext it) (fun r s=>match r with
   |none=>R (.ok .next) s
   |some v=>wpAny (model pw w) A (letOwnedTupleGo target it v) (fun _ s=>wpAny (model pw w) A (assign target env v) (fun _ s=>wpAny (model pw w) A (tests ifs env) (fun ok s=>
     (ok=true→TurnOk w A R elt gens scope pos depth acc env (fun s=>∃m,m<n∧I m s) (NB w A env R) s)∧(ok=false→∃m,m<n∧I m s)) (NB w A env R) s) (NB w A env R) s) (NB w A env R) s) (NB w A env R) s)
  (n:Nat) (h:I n s):codeAny (model pw w) A (.compLoop (.ListComp elt gens scope pos) depth it acc env) R s:=by
 refine codeAny_loop rfl I (fun n s hI=> ?_) n h
 have hnf:(Code.compLoop (.ListComp elt gens scope pos) depth it acc env).isFrame=false:=by cases depth<;>rfl
 show wpAny _ A (if(Code.compLoop (.ListComp elt gens scope pos) depth it acc env).isFrame then(compTurn (.ListComp elt gens scope pos) depth it acc env).onRaise (leaving env)else(compTurn (.ListComp elt gens scope pos) depth it acc env).onRaise (fun x=>do noteFrame x env;theTreesLotGoes x)) _ _ s
 rw [hnf]
 refine wpAny_noted ?_
 rw [compTurn_any hg]
 refine wpAny_bind (wpAny_standAt (wpAny_bind (wm (turn n s hI) fun r s h=> ?_)))
 rcases r with _|v
 ·exact wpAny_pure h
 ·refine wpAny_bind (wm h fun _ s h=>wpAny_bind (wm h fun _ s h=>wpAny_bind (wm h fun ok s h=> ?_)))
  rcases ok with _|_
  ·exact wpAny_pure ⟨rfl,h.2 rfl⟩
  ·have h:=h.1 rfl
   unfold TurnOk at h
   rw [if_pos rfl]
   generalize gens[depth+1]? =og at h⊢
   rcases og with _|g'
   ·exact wpAny_bind (wpAny_bind (wm h fun x s h=>wpAny_bind (wm h fun _ s h=>wpAny_pure (wpAny_pure ⟨rfl,h⟩))))
   ·obtain⟨ha,hf,h⟩:=h
    have hb:(g'.is_async !=0)=false:=by rw [ha];rfl
    dsimp only
    refine wpAny_bind (wm h fun x s h=>wpAny_bind (wpAny_standAt ?_))
    rw [hb]
    exact wpAny_bind (wpAny_of_eq (hf x) (wpAny_bind (wpAny_holding (wm h fun it' s h=>wpAny_bind (wm h fun _ s h=>wpAny_pure ⟨rfl,h⟩)))))
theorem wr{g:Comprehension}(hg:gens[depth]? =some g)(ha:g.is_async=0)
  (h0:codeAny (model pw w) A (.compLoop (.ListComp elt gens scope pos) depth it acc env) R s)
  (h:∀E Q,(Q:Value→Shared→Prop) it s→wpAny (model pw w) A (pyIter it) Q E s):
  codeAny (model pw w) A (.compStart (.ListComp elt gens scope pos) depth it acc env) R s:=by
 refine codeAny_of_tree ?_
 have hnf:(Code.compStart (.ListComp elt gens scope pos) depth it acc env).isFrame=false:=by cases depth<;>rfl
 show wpAny _ _ (if(Code.compStart (.ListComp elt gens scope pos) depth it acc env).isFrame then(compStart (.ListComp elt gens scope pos) depth it acc env).onRaise (leaving env)else(compStart (.ListComp elt gens scope pos) depth it acc env).onRaise (fun x=>do noteFrame x env;standAt theWindowsPlace)) _ _ s
 rw [hnf]
 refine wpAny_notedAt ?_
 unfold compStart
 have e:(clausesOf (.ListComp elt gens scope pos))[depth]? =some g:=hg
 rw [e]
 have hb:(Option.elim (some g) false fun x=>x.is_async !=0)=false:=by show(g.is_async !=0)=false;rw [ha];rfl
 rw [hb]
 show wpAny _ _ (ask>>=_) _ _ s
 refine wpAny_bind (wpAny_askSetting (wpAny_ite ?_))
 split
 ·exact wpAny_bind (wpAny_pure (wpAny_pure (And.intro rfl h0)))
 ·refine wpAny_bind (wpAny_rule ?_)
  dsimp only
  exact wpAny_bind (wpAny_standAt (wpAny_bind (h _ _ (wpAny_pure (And.intro rfl h0)))))
end
section
variable {w:World}{P:Prims}{d:Nat}{A:Around}{E:Value→Shared→Prop}{z z1 zb:Z}{fr:FrS}{env:Env}{n:Nat}
theorem append_any{s:Shared}{l:Addr}{items:Array Value}{n:Nat}{x:Value}{Q:Value→Shared→Prop}(ho:s.heap.get? l=some (listOf items n))
  (hQ:∀h' n',h'.get? l=some (listOf (items.push x) n')→Heap.SameBut l s.heap h'→Q .none {s with heap:=h'}) (hsz:items.size≤sizeLine):
  wpAny (model pw w) A (call (.builtin "list.append") [.ref l,x]) Q E s:=by
 have hl:s.heap.IsList l items:=⟨_,ho,rfl,n,rfl⟩
 refine wpAny_call_entry slot_list_append hl.typeIs entry_list_append ?_ (args_list_append _ _)
 show wpAny _ _ (updateSeq l (·.push x)>>=fun _=>ret .none) _ _ s
 refine wpAny_bind (wpAny_updateSeq ho rfl (wpAny_pure ⟨.none,rfl,hQ _ _ (Heap.get?_update_self (h:=s.heap) (fun o=>o.mapSeq (·.push x)) ho rfl) (Heap.SameBut.update ..)⟩))
theorem app_ok{acc:Nat}{xs:List SV}{y:SV}{u:Value}{Q:Value→Shared→Prop}(r:Rep z)(h:Has z.st acc (.list xs))(hl:xs.length≤sizeLine)(q:VRel z.y y u)(k:∀s,Step z ⟨z.G,z.ρ,z.st.put acc (.list (xs++[y])),s⟩→Q .none s):
  wpAny (model pw w) A (call (.builtin "list.append") [.ref (z.ρ acc),u]) Q E z.s:=by
 obtain⟨vs,kk,ho,hr⟩:=r.list_of h
 exact append_any ho (fun h' n' ho' hs'=>k {z.s with heap:=h'} (r.turn h hs'.2 ho' (.list (by rw [Array.toList_push];exact hr.append (.cons q .nil))) .heap)) (by rw [←Array.length_toList,←hr.length];exact hl)
inductive LcI(w:World)(P:Prims)(d:Nat)(A:Around)(zb:Z)(x:SV)(it:Value)(fr:FrS)(env:Env)(elt:Expr)(gens:List Comprehension)(depth acc:Nat)(K:KS)(n:Nat)(z:Z)(m:Nat):Shared→Prop
 |mk {k} {z1:Z}:LInv w d zb x it k z1→EnvOk z1.y fr env→(∀i,i<z.st.nx→z1.ρ i=z.ρ i)→z.st.nx≤z1.st.nx→m≤n→vc w P m (.LC elt gens depth x k acc fr z1.st K)→LcI w P d A zb x it fr env elt gens depth acc K n z m z1.s
inductive JoinI(b:Bool)(g:Option Comprehension)(e:Expr)(fr:FrS)(st:St)(p:Bool×SV):Prop
 |mk {x:Str}:g=none→p.1=b→xo e=some x→(x=="__debug__")=false→y6 fr st x=some p.2→JoinI b g e fr st p
theorem joinN_of{s b:Bool}{g:Option Comprehension}{e:Expr}{st:St}{p}(h:joinN s b g e fr st=some p):JoinI b g e fr st p:=by
 rcases s with _|_
 ·exact(zu rfl h).elim
 ·rcases g with _|g
  ·obtain⟨x,e1,h⟩:=zz h
   obtain⟨e2,h⟩:=zv h
   obtain⟨v,e3,h⟩:=zz h
   cases h
   exact .mk rfl rfl e1 ((Bool.not_eq_true' _).mp e2) e3
  ·exact(zu rfl h).elim
theorem eval_nm{e:Expr}{x:Str}{v:SV}{Q:Value→Shared→Prop}(hn:xo e=some x)(hd:(x=="__debug__")=false)(hr:y6 fr z.st x=some v)(ok:Ok w z)(ev:EnvOk z.y fr env)(hQ:∀u,VRel z.y v u→Q u z.s):wpAny (model pw w) A (eval e env) Q E z.s:=by
 obtain⟨_,pp,rfl⟩:=xw (t:=e) (by rw [hn];rfl)
 cases hn
 exact wpAny_Name (yX hr ok ev hQ) hd
end
section
variable {w:World}{P:Prims}{d:Nat}{A:Around}{E:Value→Shared→Prop}{z z1 zb:Z}{fr:FrS}{env:Env}{n:Nat}
theorem lc_elt(S0:Sound w P d){elt:Expr}{gens:List Comprehension}{scope:Scope}{pos:Pos}{depth:Nat}{x:SV}{k acc:Nat}{K:KS}{s c:Bool}{m:Nat}{R:Result→Shared→Prop}{a:Addr}{I:Shared→Prop}(IH:∀t,vc w P m t→zW w P d t)
  (h:alt (joinN s c gens[depth+1]? elt fr z.st) (fun p=>appendC acc p.1 p.2 z.st fun st4=>vc w P m (.LC elt gens depth x (k+1) acc fr st4 K))
    (way s c (alt gens[depth+1]? (fun g'=>zI (g'.is_async==0&&notSet g'.iter) (vc w P m (.E g'.iter fr z.st fun xv st3=>ap (P.iter xv st3) fun x' st4=>vc w P m (.LC elt gens (depth+1) x' 0 acc fr st4 fun st5=>vc w P m (.LC elt gens depth x (k+1) acc fr st5 K)))))
     (vc w P m (.E elt fr z.st fun y st3=>appendL acc y st3 fun st4=>vc w P m (.LC elt gens depth x (k+1) acc fr st4 K)))) (vc w P m (.LC elt gens depth x (k+1) acc fr z.st K))))
  (ha:AOk d A) (ok:Ok w z) (ev:EnvOk z.y fr env) (hacc:acc<z.st.nx) (ea:a=z.ρ acc) (go:∀z1,Step z z1→vc w P m (.LC elt gens depth x (k+1) acc fr z1.st K)→I z1.s):
  (c=true→TurnOk w A R elt gens scope pos depth (.ref a) env I (NB w A env R) z.s)∧(c=false→I z.s):=by
 subst ea
 have app:∀{z1:Z} {xs:List SV} {y:SV} {u:Value},Step z z1→zA z1.st acc=some xs→xs.length≤sizeLine→VRel z1.y y u→vc w P m (.LC elt gens depth x (k+1) acc fr (z1.st.put acc (.list (xs++[y]))) K)→
   wpAny (model pw w) A (call (.builtin "list.append") [.ref (z.ρ acc),u]) (fun _ s=>I s) (NB w A env R) z1.s:=fun{z1 xs y u} S hl hs q h=>by
  rw [←show z1.ρ acc=z.ρ acc from S.le.rho acc hacc]
  exact app_ok S.rep (zB hl) hs q fun s S2=>go _ (S.trans S2) h
 have h1:=xE h
 clear h
 rcases h1 with⟨p,e,h⟩|⟨_,h⟩
 ·rcases joinN_of e with⟨hd,e1,en,hdb,hrd⟩
  obtain⟨xs,hl,h1,h⟩:=zr h
  rw [e1]at h
  refine⟨fun hc=> ?_,fun hc=> ?_⟩<;>rw [hc]at h
  ·unfold TurnOk
   rw [hd]
   exact eval_nm en hdb hrd ok ev fun yu q=>app (.refl ok.rep) hl (Nat.le_trans h1 (by decide)) q h
  ·obtain⟨vs,kk,ho,hr⟩:=ok.rep.list_of (zB hl)
   exact go ⟨z.G,z.ρ,z.st.put acc (.list (xs++condL false p.2)),z.s⟩ (ok.rep.turn (s:=z.s) (zB hl) (fun _ _=>rfl) ho (.list ((List.append_nil xs).symm▸hr)) (.refl _)) h
 ·refine⟨fun hc=> ?_,fun hc=>go z (.refl ok.rep) ((way_of h).2 hc)⟩
  have h1:=xE ((way_of h).1 hc)
  clear h
  unfold TurnOk
  rcases h1 with⟨g',e,h⟩|⟨e,h⟩<;>rw [e]
  ·have h0:=zx (zm h).1
   have h1:=h0.1
   have h2:=h0.2
   refine⟨beq_iff_eq.mp h1,xR h2,(IH _ (zm h).2 z env rfl ev).go ok ha fun z1 y yu S1 o1 q k1=> ?_⟩
   obtain⟨t,e2,kt⟩:=zr k1
   refine wm (S0.iter _ _ _ _ _ _ _ e2 kt q ha o1) fun it' s p=> ?_
   cases p with
   | @mk z2 x' _ L k2=>
    have S2:=S1.trans L.step
    have inner:codeAny (model pw w) A (.compLoop (.ListComp elt gens scope pos) (depth+1) it' (.ref (z.ρ acc)) env) (fun r s'=>match r with
      | .ok f=>I s'
      | .error e=>cameBackBy (model pw w) A env (NB w A env R) e s') z2.s:=by
     rw [←show z2.ρ acc=z.ρ acc from S2.le.rho acc hacc]
     exact IH _ k2 z1 it' z2 env A scope pos _ rfl ha o1 L (S2.env ev) (Nat.lt_of_lt_of_le hacc S2.le.nx) fun z3 S3 _ k3=>go z3 (S1.trans S3) k3
    exact wpAny_runOwn (wr e (beq_iff_eq.mp h1) inner fun E Q q=>L.self q)
  ·exact(IH _ h z env rfl ev).go ok ha fun z1 y u S o q k=>by
    obtain⟨xs,hl,k⟩:=zr k
    exact app S hl (Nat.le_of_ble_eq_true (zm k).1) q (zm k).2
theorem s_LC(S0:Sound w P d)(IH:IHn w P d n){elt gens depth x k acc st}{K:KS}(h:vc w P n (.LC elt gens depth x k acc fr st K)):zW w P d (.LC elt gens depth x k acc fr st K):=by
 rintro zb it z env A scope pos R rfl ha ok L ev hacc hR
 have hg:∃g,gens[depth]? =some g∧(g.is_async==0)=true:=by
  rcases n with _|n
  ·exact h.elim
  ·obtain⟨g,e,h⟩:=zr h
   exact⟨g,e,(zm h).1⟩
 obtain⟨⟨tgt,iter,ifs,as⟩,hg,ea⟩:=hg
 obtain rfl:as=0:=beq_iff_eq.mp ea
 obtain⟨I,hI⟩:∃I,I=LcI w P d A zb x it fr env elt gens depth acc K n z:=⟨_,rfl⟩
 refine compLoop_any hg I (fun m s h=> ?_) n (hI▸ .mk L ev (fun _ _=>rfl) (Nat.le_refl _) (Nat.le_refl _) h)
 rw [hI]at h
 rcases h with⟨L,ev,hρ,hn,hm,h⟩
 rename_i k z1
 rcases m with _|m
 ·exact h.elim
 ·have IH:∀t,vc w P m t→zW w P d t:=IH m hm
  obtain⟨g,e,h⟩:=zr h
  obtain rfl:_=g:=Option.some.inj (hg.symm.trans e)
  obtain⟨o,hi,h⟩:=zr (zm h).2
  refine L.turn ha (L.step.ok ok) hi (fun q G s S=> ?_) fun v u G s q L hv=>L.tgo ?_
  ·subst q
   exact hR ⟨G,z1.ρ,z1.st,s⟩ S hρ h
  ·subst q
   refine(IH _ h ⟨G,z1.ρ,z1.st,s⟩ env u rfl ev.mv hv).go (L.step.ok ok) ha fun z2 _ _ S2 o2 _ k2=>(IH _ k2 z2 env rfl (S2.env (z:=⟨G,z1.ρ,z1.st,s⟩) ev.mv)).go o2 ha fun z3 p cu S3 o3 q3 k3=> ?_
   have S23:=S2.trans S3
   have hρ3:∀i,i<z.st.nx→z3.ρ i=z.ρ i:=fun i hi=>(S23.le.rho i (Nat.lt_of_lt_of_le hi hn)).trans (hρ i hi)
   have hn3:=Nat.le_trans hn S23.le.nx
   obtain rfl:p.2=cu:=q3
   have ev3:=S23.env (z:=⟨G,z1.ρ,z1.st,s⟩) ev.mv
   exact lc_elt S0 IH k3 ha o3 ev3 (Nat.lt_of_lt_of_le hacc hn3) (hρ3 acc hacc).symm fun z4 S4 k4=>⟨m,Nat.lt_succ_self m,hI▸ .mk (L.go (S23.trans S4)) (S4.env ev3) (fun i hi=>(S4.le.rho i (Nat.lt_of_lt_of_le hi hn3)).trans (hρ3 i hi)) (Nat.le_trans hn3 S4.le.nx) (Nat.le_of_succ_le hm) k4⟩
end
set_option tactic.hygienic true
section
variable {w:World}{P:Prims}{d:Nat}{A:Around}{E:Value→Shared→Prop}{z z1 zb:Z}{fr:FrS}{env:Env}{n:Nat}
theorem closF_ok{y:Y}(ev:EnvOk y fr env)(f:Str×NameKind→List (Str×Addr)→Sem (ForInStep (List (Str×Addr))))
  (hf:∀x k cs,f (x,k) cs=if k== .free then(do let a←cellOf env x;pure (.yield ((x,a)::cs)))else pure (.yield cs)) (names:List (Str×NameKind)):
  ∀(acc:List (Str×Nat)) {cl:List (Str×Nat)},closF fr names acc=some cl→(∀p∈acc,p.2<y.n)→forIn names (atA y.ρ acc) f=pure (atA y.ρ cl)∧∀p∈cl,p.2<y.n:=by
 induction names with
 |nil=>exact fun acc cl h hn=>by cases h;exact⟨by rw [List.forIn_nil],hn⟩
 |cons p r ih=>
  intro acc cl h hn
  obtain⟨x,k⟩:=p
  rw [List.forIn_cons,hf]
  by_cases hk:k= .free
  ·subst hk
   rw [if_pos (by rfl)]
   obtain⟨i,hc,h⟩:=zz h
   have hce:=ev.cell hc
   have e1:cellOf env x=pure (y.ρ i):=by unfold cellOf;rw [hce.2]
   rw [e1]
   exact ih ((x,i)::acc) h (List.forall_mem_cons.mpr ⟨hce.1,hn⟩)
  ·rw [if_neg (by rw [beq_false_of_ne hk];exact Bool.false_ne_true)]
   have e:closF fr ((x,k)::r) acc=closF fr r acc:=by
    induction k with
    |free=>exact(hk rfl).elim
    |_=>rfl
   exact ih acc (e▸h) hn
theorem closure_ok{y:Y}(ev:EnvOk y fr env){scope:Scope}{cl:List (Str×Nat)}(h:closF fr scope.names []=some cl):closureFor scope env=pure (atA y.ρ cl)∧∀p∈cl,p.2<y.n:=by
 have:=closF_ok ev (fun x r=>if x.2== .free then(do let a←cellOf env x.1;pure (.yield ((x.1,a)::r)))else pure (.yield r)) (fun _ _ _=>rfl) scope.names [] h (fun _ q=>(nomatch q))
 refine⟨?_,this.2⟩
 show(forIn scope.names [] (fun(x:Str×NameKind) (r:List (Str×Addr))=>if x.2== .free then(do let a←cellOf env x.1;pure (.yield ((x.1,a)::r)))else pure (.yield r))>>=fun r=>pure r)=_
 have e:forIn scope.names [] (fun(x:Str×NameKind) (r:List (Str×Addr))=>if x.2== .free then(do let a←cellOf env x.1;pure (ForInStep.yield ((x.1,a)::r)))else pure (ForInStep.yield r))=(pure (atA y.ρ cl):Sem _):=this.1
 rw [e];rfl
theorem relabel_of{scope:Scope}(h:env.scope=fr.scope):relabel scope env=relabel scope (envOf fr.scope):=by
 unfold relabel Env.kindOf
 rw [h];rfl
theorem scopeOk_of{s:Scope}(h:scopeOk s=true):s.kind= .function∧∀x∈s.names,x.2= .local→s.names.lookup x.1=some .local:=by
 obtain⟨h1,h2⟩:=zx h
 refine⟨beq_iff_eq.mp h1,fun x hx e=> ?_⟩
 have:=List.all_eq_true.mp h2 x hx
 rw [e]at this
 exact beq_iff_eq.mp this
theorem isNs_of{st:St}{i:Nat}(h:(nsL st i).isSome=true):∃c fs,Has st i (.ns c fs):=by
 obtain⟨p,e⟩:=Option.isSome_iff_exists.mp h
 exact⟨_,_,yN e⟩
theorem made_ok{f:Bool}{K:KV}{i j:Nat}{Q:Prop}{y0:Addr}(r:Rep z)(h:madeL f K i (z.st.drop j))(hi:i<z.st.nx)(hy:z.ρ i=y0)(hj:∃c fs,Has z.st j (.ns c fs))
  (hQ:∀z1 v,Step z z1→z1.s=z.s→VRel z1.y v (.ref y0)→K v z1.st→z1.G (z.ρ j)=none→z1.Out (z.ρ j)→Q):Q:=by
 obtain⟨c,fs,hj⟩:=hj
 obtain⟨o,wj⟩:=r.own j _ hj
 have S:=r.forget j
 have out:(z.to (z.st.drop j)).Out (z.ρ j):=⟨fun i so e q=>(yk e).1 (r.inj _ _ _ _ (yk e).2 hj q),fun m=>let⟨_,w⟩:=r.tab _ m;w.ow j _ hj rfl⟩
 induction f with
 |false=>exact hQ _ (.ref i) S rfl (hy▸ .ref hi) h wj.gn out
 |true=>
  obtain⟨xs,hl,h⟩:=zr h
  have hl:=zB hl
  obtain⟨vs,kk,ho,hr⟩:=S.rep.list_of hl
  have F:=S.rep.freeze hl ho
  exact hQ _ (.vlist xs) (S.trans F) rfl (hy▸ .vlist (zm h).1 (vs:=vs) (k:=kk) (if_pos rfl) (F.vals hr)) (zm h).2 ((if_neg fun q=>out.1 _ _ hl q.symm).trans wj.gn) ⟨fun i so e=>out.1 i so (yk e).2,out.2⟩
theorem lc_core(S0:Sound w P d)(IH:∀t,vc w P n t→zW w P d t){elt:Expr}{g:Comprehension}{gens:List Comprehension}{scope:Scope}{pos pos':Pos}{K:KV}(h:stp w P (vc w P n) (.E (.ListComp elt (g::gens) scope pos) fr z.st K))
  (ha:AOk d A) (ok:Ok w z) (ev:EnvOk z.y fr env) {use:Option (Value→Sem Unit)} {Q:Value→Shared→Prop}
  (hQ:∀z1 v a C m,Step z z1→VRel z1.y v a→K v z1.st→z.s.heap.get? C=none∧z1.G C=none∧z1.Out C→z1.s.heap.Ns C m→compPost (model pw w) A E use Q a C (.ok .next) z1.s):
  wpAny (model pw w) A (comprehension (.ListComp elt (g::gens) scope pos) scope env pos' (newList []) false (eval g.iter env) use) Q E z.s:=by
 have h0:=zm h
 clear h
 obtain⟨tgt,iter,ifs,as⟩:=g
 obtain⟨h1,hso⟩:=zx h0.1
 obtain⟨has,hns⟩:=zx h1
 obtain rfl:as=0:=beq_iff_eq.mp has
 obtain⟨cl,hc,h⟩:=zr h0.2
 clear h0 h1 has
 have hk:=(scopeOk_of hso).1
 have hcl:=closure_ok ev hc
 refine wpAny_comprehension_free rfl (xR hns) hcl.1 hk (scopeOk_of hso).2 ((IH _ h z env rfl ev).go ok ha fun z1 xv xu S1 o1 q1 k1=> ?_)
 obtain⟨t,e2,kt⟩:=zr k1
 refine wm (S0.iter _ _ _ _ _ _ _ e2 kt q1 ha o1) fun it s p=> ?_
 rcases p with⟨L,k2⟩
 rename_i z2 x2
 have S2:=L.step
 refine wpAny_newObj_type ?_ (by size_fits)
 have S3:=S2.rep.pushO (o:=listOf ([]:List Value).toArray 0) (so:= .list []) rfl (.list .nil)
 have S13:=(S1.trans S2).trans S3
 refine newEnv_ok (z:=⟨z2.G,xM z2.ρ z2.st.nx z2.new,z2.st.push (.list []),{z2.s with heap:=z2.s.heap.push (listOf ([]:List Value).toArray 0)}⟩) (c:="dict") (bs:=[]) (globals:=env.globals) (builtins:=builtinsNs)
  (K:=fun fr' st3=>vc w P n (.LC elt (⟨tgt,iter,ifs,0⟩::gens) 0 x2 0 z2.st.nx ⟨fr'.fid,fr'.cells,relabel scope (envOf fr.scope),fr.code⟩ st3 fun st4=>zI (nsL st4 (z2.st.nx+1)).isSome (madeL (P.frz pos.line) K z2.st.nx (st4.drop (z2.st.nx+1))))) k2 hk ev.globals ev.builtins S3.rep (atA_mono hcl.2 fun i hi=>S13.le.rho i hi) (fun p hp=>Nat.lt_of_lt_of_le (hcl.2 p hp) S13.le.nx) .nil ?_
 intro cenv fr' z4 S4 ev4 ne k4
 have L4:=L.go (S3.trans S4)
 have hlt:z2.st.nx+1<z4.st.nx:=Nat.lt_of_le_of_lt (Nat.le_of_eq ne.fid.symm) ev4.fid
 have hacc:z2.new=z4.ρ z2.st.nx:=((S4.le.rho z2.st.nx (Nat.lt_succ_self _)).trans zQ).symm
 have hlt2:z2.st.nx<z4.st.nx:=Nat.lt_of_succ_lt hlt
 have loop:codeAny (model pw w) A (.compLoop (.ListComp elt (⟨tgt,iter,ifs,0⟩::gens) scope pos) 0 it (.ref z2.new) {cenv with scope:=relabel scope env}) (compPost (model pw w) A E use Q (.ref z2.new) cenv.locals) z4.s:=by
  rw [hacc]
  refine IH _ k4 z1 it z4 {cenv with scope:=relabel scope env} A scope pos _ rfl ha o1 L4 ⟨relabel_of ev.scope,hk,ev4.fid,ev4.locals,ev4.cells,ev4.cn,ev4.globals,ev4.builtins,ev4.code.trans (ne.code.trans ev.code)⟩ hlt2 fun z5 S5 hρ5 k5=> ?_
  obtain⟨c,fs,hl⟩:=isNs_of (zm k5).1
  have hC:cenv.locals=z5.ρ (z2.st.nx+1):=by rw [show cenv.locals=z4.ρ fr'.fid from ev4.locals,ne.fid];exact(hρ5 _ hlt).symm
  obtain⟨l5,hns5,_⟩:=S5.rep.ns_of hl
  have hi:z2.st.nx<z5.st.nx:=by
   obtain⟨_,w5⟩:=S5.rep.own _ _ hl
   exact Nat.lt_of_succ_lt w5.lt
  rw [hC]
  exact made_ok S5.rep (zm k5).2 hi (hρ5 _ hlt2) ⟨_,_,hl⟩ fun z6 v S6 e6 q6 k6 g6 n6=>by
   have:=hQ z6 v _ (z5.ρ (z2.st.nx+1)) _ ((S1.trans S5).trans S6) q6 k6 ⟨S13.dead (hC▸ne.dead),g6,n6⟩ (e6▸hns5)
   rw [e6]at this
   exact this
 exact wr (depth:=0) rfl rfl loop fun E Q q=>L4.self q
end
set_option tactic.hygienic false
section
variable {w:World}{P:Prims}{d:Nat}{A:Around}{E:Value→Shared→Prop}{z z1 zb:Z}{fr:FrS}{env:Env}{n:Nat}{st:St}
theorem Step.letGo(S:Step z z1){C:Addr}{h':Heap}(hs:Heap.SameBut C z1.s.heap h')(hC:z.s.heap.get? C=none∧z1.G C=none∧z1.Out C):Step z (z1.hp h'):=
 S.poke (s:={z1.s with heap:=h'}) [C] (fun b o n e=>(hs.2 b fun q=>n (q▸List.mem_singleton_self _)).trans e) (fun b hb=>List.mem_singleton.mp hb▸hC) ⟨S.gs.os,S.gs.gens,S.gs.bare⟩
theorem s_LComp(S0:Sound w P d)(IH:∀t,vc w P n t→zW w P d t)(a b c p)(K:KV)(z:Z)(env:Env)(h:stp w P (vc w P n) (.E (.ListComp a b c p) fr z.st K))(ev:EnvOk z.y fr env):W w d VRel K z (eval (.ListComp a b c p) env):=fun A E ha ok=>by
 rcases b with _|⟨g,gens⟩
 ·exact h.elim
 ·obtain⟨tgt,iter,ifs,as⟩:=g
  obtain rfl:as=0:=beq_iff_eq.mp (zx (zx (zm h).1).1).1
  rw [arm_eval_ListComp]
  exact lc_core S0 IH h ha ok ev (use:=none) fun z1 v a C m S q k hC hm=>⟨m,hm,fun h' hs=>.mk (S.letGo hs hC) q k⟩
theorem wf{t e:Expr}{l:Nat}(h:noComp e=true):swapsWithSole [t] e l env=pure false:=by
 unfold swapsWithSole;exact sw_false h
theorem inter_false{y:Y}(ev:EnvOk y fr env):interactive env=false:=by
 unfold interactive
 rw [ev.scope,ev.kind];rfl
theorem asTup_some{t:Expr}{es}(h:asTup t=some es):∃k p,t= .Tuple es k p:=by
 induction t using Expr.casesOn with
 |Tuple=>cases h;exact⟨_,_,rfl⟩
 |_=>exact(zu rfl h).elim
theorem asNm{t:Expr}{x}(h:xo t=some x):∃p,t= .Name x p:=by
 obtain⟨i,p,rfl⟩:=xw (t:=t) (by rw [h];rfl)
 cases h;exact⟨p,rfl⟩
theorem asTwo{t:Expr}{q}(h:(asTup t).bind two=some q):∃k p,t= .Tuple [q.1,q.2] k p:=by
 obtain⟨es,e,h⟩:=zz h
 obtain⟨k,p,rfl⟩:=asTup_some e
 rcases es with _|⟨x,_|⟨y,_|⟨_,_⟩⟩⟩
 ·exact(zu rfl h).elim
 ·exact(zu rfl h).elim
 ·cases h;exact⟨k,p,rfl⟩
 ·exact(zu rfl h).elim
inductive SwapI(a b:Str)(x y t e:Expr):Prop
 |mk {pp k pa pb p2 k2}:t= .Tuple [.Name a pa,.Name b pb] k pp→e= .Tuple [x,y] k2 p2→SwapI a b x y t e
theorem asSwap_some{t e:Expr}{q}(h:asSwap t e=some q):SwapI q.1 q.2.1 q.2.2.1 q.2.2.2 t e:=by
 obtain⟨p,e1,h⟩:=zz h
 obtain⟨r,e2,h⟩:=zz h
 obtain⟨a,e3,h⟩:=zz h
 obtain⟨b,e4,h⟩:=zz h
 cases h
 obtain⟨k,pp,h1⟩:=asTwo e1
 obtain⟨k2,p2,h2⟩:=asTwo e2
 obtain⟨pa,h3⟩:=asNm e3
 obtain⟨pb,h4⟩:=asNm e4
 rw [h3,h4]at h1
 exact .mk h1 h2
theorem comp_of{e:Expr}(h:(!(isK 9 e||isK 10 e))=true):noComp e=true∨∃a b c p,e= .ListComp a b c p:=by
 induction e using Expr.casesOn with
 |ListComp a b c p=>exact .inr ⟨a,b,c,p,rfl⟩
 |SetComp=>exact Bool.noConfusion h
 |DictComp=>exact Bool.noConfusion h
 |_=>exact .inl rfl
theorem tgt_star{t e:Expr}(h:okTgt t e=true):(!isK 22 t)=true:=by
 induction t using Expr.casesOn with
 |Starred a b=>exact Bool.noConfusion ((Bool.and_false _).symm.trans h)
 |_=>rfl
theorem tgt_sw{t e:Expr}(h:okTgt t e=true)(env:Env):swappedStores [t] e env=pure none:=by
 induction t using Expr.casesOn with
 |List=>exact Bool.noConfusion ((Bool.and_false _).symm.trans h)
 |Tuple es k p=>
  have h:=(zx h).2
  induction e using Expr.casesOn with
  |Tuple=>exact Bool.noConfusion h
  |_=>rfl
 |_=>rfl
theorem sole_attr{o:Expr}{a:Str}{q:Pos}{e:Expr}{l:Nat}{env:Env}(h:(!(isK 9 e||isK 10 e))=true):swapsWithSole [.Attribute o a q] e l env=pure false:=by
 rcases comp_of h with h|⟨_,_,_,_,rfl⟩
 ·exact wf h
 ·rfl
theorem tgt_comp{t e:Expr}(h:okTgt t e=true):(∀l env,swapsWithSole [t] e l env=pure false)∨(xo t).isSome=true∧(!(isK 9 e||isK 10 e))=true:=by
 rcases(Bool.or_eq_true _ _).mp h with h|h
 ·obtain⟨h,h2⟩:=zx h
  induction t using Expr.casesOn with
  |Name=>exact .inr ⟨rfl,h2⟩
  |Attribute=>exact .inl fun _ _=>sole_attr h2
  |_=>exact Bool.noConfusion h
 ·exact .inl fun _ _=>wf (zx h).1
section
variable (S0:Sound w P d)(IH:∀t,vc w P n t→zW w P d t)(ev:EnvOk z.y fr env)(ha:AOk d A)(ok:Ok w z)
include S0 IH ev ha ok
theorem s_swap{x y:Expr}{a b:Str}{k k2:Nat}{pp pa pb p p2:Pos}{K:KF}(hw:swappedStores [.Tuple [.Name a pa,.Name b pb] k pp] (.Tuple [x,y] k2 p2) (envOf fr.scope)=pure (some [a,b]))(hst:yV [x,y]=true)
  (h:vc w P n (.E x fr z.st fun v1 st1=>vc w P n (.E y fr st1 fun v2 st2=>yD fr st2 b v2 fun st3=>yD fr st3 a v1 (K .next)))):wpAny (model pw w) A (exec (.Assign [.Tuple [.Name a pa,.Name b pb] k pp] (.Tuple [x,y] k2 p2) p) env) (Post FRel K z) E z.s:=by
 obtain⟨hx,hst⟩:=yr hst
 refine Assign_Tuple_swapped (names:=[a,b]) ?_ rfl (by
  have e:∀env,swappedStores [.Tuple [.Name a pa,.Name b pb] k pp] (.Tuple [x,y] k2 p2) env=swappedStores [.Tuple [.Name a pa,.Name b pb] k pp] (.Tuple [x,y] k2 p2) (envOf env.scope):=fun _=>rfl
  rw [e,ev.scope];exact hw)
 refine wpAny_Tuple (spliced_more ((IH _ h z env rfl ev).go ok ha fun z1 v u S o q k1=>spliced_more ((IH _ k1 z1 env rfl (S.env ev)).go o ha fun z2 v2 u2 S2 o2 q2 k2=>spliced_nil ⟨by show 2≤sizeLine;decide,?_⟩) (ym (yr hst).1)) (ym hx))
 have SS:=S.trans S2
 refine wpAny_unpackItems_tuple (items:=[u,u2].toArray) ha.1 ⟨_,Heap.get?_push_size _ rfl,rfl,_,rfl⟩ fun h' hx'=> ?_
 have S3:Step z2 (z2.hp h'):=o2.rep.grow (s:={z2.s with heap:=h'}) (fun b o e=>hx' b o (by rw [Heap.size_push];exact Nat.ne_of_lt (Nat.lt_succ_of_lt (Heap.lt_size e))) (Heap.get?_push_of_some _ e)) .heap
 have S13:=SS.trans S3
 show wpAny _ _ (do holding [u] (bindName env b u2);(do holding [] (bindName env a u);pure ())) _ _ _
 exact wpAny_bind (wpAny_holding (wpAny_bindName (Post.uto (writeR (z:=z2.hp h') k2 S3.rep (S13.env ev) (S3.val q2)) fun z4 S4 k4=>wpAny_bind (wpAny_holding (wpAny_bindName (Post.uto (writeR k4 S4.rep ((S13.trans S4).env ev) (S4.val (S3.val (S2.val q)))) fun z5 S5 k5=>wpAny_pure (.mk ((S13.trans S4).trans S5) .next k5)))))))
theorem s_asgP{t e:Expr}{p:Pos}{K:KF}(ht:okTgt t e=true)(hs:swapsWithSole [t] e p.line env=pure false)(h:vc w P n (.E e fr z.st fun v st1=>vc w P n (.A t v fr st1 (K .next)))):wpAny (model pw w) A (exec (.Assign [t] e p) env) (Post FRel K z) E z.s:=by
 refine wpAny_Assign_stores ((IH _ h z env rfl ev).go ok ha fun z1 v u S o q k=> ?_) hs (tgt_sw ht env)
 rw [yj (tgt_star ht)]
 exact Post.uto ((IH _ k z1 env u rfl (S.env ev) q).last o ha (.refl o.rep)) fun z2 S2 k2=>.mk (S.trans S2) .next k2
theorem s_asgN{m:Nat}(IH2:∀t,vc w P m t→zW w P d t){i px p elt gens scope pos}{K:KF}(hb:swapsWith (.ListComp elt gens scope pos) (some (.Name i px)) p.line env=pure true)
  (h:stp w P (vc w P m) (.E (.ListComp elt gens scope pos) fr z.st fun v st1=>vc w P n (.A (.Name i px) v fr st1 (K .next)))):wpAny (model pw w) A (exec (.Assign [.Name i px] (.ListComp elt gens scope pos) p) env) (Post FRel K z) E z.s:=by
 rcases gens with _|⟨⟨tgt,iter,ifs,as⟩,gens⟩
 ·exact h.elim
 ·rw [exec_Assign_Name_used _ _ _ _ hb]
  obtain rfl:as=0:=beq_iff_eq.mp (zx (zx (zm h).1).1).1
  refine wpAny_bind (wpAny_standAt (wpAny_bind (wpAny_bind (wm (lc_core (Q:=fun _ s'=>Post FRel K z .next s') S0 IH2 h ha ok ev (use:=some (assign (.Name i px) env)) fun z1 v a C m S q k hC hm=> ?_) fun _ s' q=>wpAny_pure (wpAny_pure q)))))
  refine Post.uto ((IH _ k z1 env a rfl (S.env ev) q).last (S.ok ok) ha (.refl S.rep)) fun z2 S2 k2=> ?_
  obtain⟨o,es,ep,ho,h⟩:=hm
  obtain⟨e2,n2,g2⟩:=S2.out C o ho hC.2.2
  exact⟨m,⟨o,es,ep,e2,h⟩,fun h' hs=>.mk ((S.trans S2).letGo (C:=C) hs ⟨hC.1,g2.trans hC.2.1,n2⟩) .next k2⟩
end
theorem s_Asg(S0:Sound w P d)(IHa:IHn w P d (n+1)){ts:List Expr}{e:Expr}{p:Pos}{K:KF}(h:stp w P (vc w P n) (.S (.Assign ts e p) fr z.st K))(ev:EnvOk z.y fr env):W w d FRel K z (exec (.Assign ts e p) env):=fun A E ha ok=>by
 have IH:∀t,vc w P n t→zW w P d t:=IHa n (Nat.lt_succ_self n)
 rcases ts with _|⟨t,_|⟨_,_⟩⟩
 ·exact h.elim
 ·have h1:=xE h
  clear h
  rcases h1 with⟨q,e1,hw,hst,h⟩|⟨_,h⟩
  ·rcases asSwap_some e1 with⟨e2,e3⟩
   rw [e2,e3]at hw⊢
   exact s_swap S0 IH ev ha ok hw hst h
  ·obtain⟨ht,h⟩:=zm h
   rcases tgt_comp ht with h4|⟨h4,h5⟩
   ·exact s_asgP S0 IH ev ha ok ht (h4 _ _) h
   ·rcases comp_of h5 with h5|⟨elt,gens,scope,pos,h5⟩
    ·exact s_asgP S0 IH ev ha ok ht (wf h5) h
    ·obtain⟨i,px,h4⟩:=xw h4
     rw [h4,h5]at ht h⊢
     obtain⟨b,hb⟩:∃b,swapsWith (.ListComp elt gens scope pos) (some (.Name i px)) p.line env=pure b:=⟨_,rfl⟩
     rcases b with _|_
     ·exact s_asgP S0 IH ev ha ok ht hb h
     ·rcases n with _|m
      ·exact h.elim
      ·exact s_asgN S0 IH ev ha ok (IHa m (Nat.lt_succ_of_lt (Nat.lt_succ_self m))) hb h
 ·exact h.elim
end
section
variable {w:World}{P:Prims}{d:Nat}{A:Around}{E:Value→Shared→Prop}{z z1 zb:Z}{fr:FrS}{env:Env}{n:Nat}{st:St}
theorem aug_plain{i:Expr}(h:(asSlc i).2=true)(ov iv new:Value):augStore i ov iv new=(do holding [new,ov,iv] (setItem ov iv new);release [new,ov,iv] [];pure Flow.next):=by
 induction i using Expr.casesOn with
 |Slice l u s q=>induction s using Option.casesOn<;>exact Bool.noConfusion h
 |_=>rfl
theorem s_Aug(S0:Sound w P d)(IH:∀t,vc w P n t→zW w P d t){t e:Expr}{op:Operator}{p:Pos}{K:KF}(h:stp w P (vc w P n) (.S (.AugAssign t op e p) fr z.st K))(ev:EnvOk z.y fr env):W w d FRel K z (exec (.AugAssign t op e p) env):=fun A E ha ok=>by
 induction t using Expr.casesOn with
 |Name x px=>
  obtain⟨old,hr,h⟩:=zr h
  exact wpAny_AugAssign_Name (yX hr ok ev fun u0 q0=>(IH _ h z env rfl ev).go ok ha fun z1 v u S o q k=>(show W w d VRel _ z1 _ from S0.ap2 k (S.val q0) q).go o ha fun z2 v2 u2 S2 o2 q2 k2=>Post.uto (writeR k2 o2.rep ((S.trans S2).env ev) q2) fun z3 S3 k3=>.mk ((S.trans S2).trans S3) .next k3)
 |Subscript o i px=>
  obtain⟨hi,h⟩:=zm h
  refine wpAny_AugAssign_SubscriptAny ?_ (aug_plain hi)
  refine(IH _ h z env rfl ev).go ok ha fun z1 x xu S1 o1 q1 k1=>(IH _ k1 z1 env rfl (S1.env ev)).go o1 ha fun z2 j ju S2 o2 q2 k2=> ?_
  refine(show OpW w d _ z2 .sub _ from S0.ap2 k2 (S2.val q1) q2).1.go o2 ha fun z3 old oldu S3 o3 q3 k3=> ?_
  have S13:=(S1.trans S2).trans S3
  refine(IH _ k3 z3 env rfl (S13.env ev)).go o3 ha fun z4 v vu S4 o4 q4 k4=>(show W w d VRel _ z4 _ from S0.ap2 k4 (S4.val q3) q4).go o4 ha fun z5 nw nwu S5 o5 q5 k5=> ?_
  have S25:=(S3.trans S4).trans S5
  exact Post.uto ((show W w d URel (KS.u (K .next)) z5 _ from S0.ap3 k5 (S25.val (S2.val q1)) (S25.val q2) q5).last o5 ha (.refl o5.rep)) fun z6 S6 k6=>.mk (((S13.trans S4).trans S5).trans S6) .next k6
 |_=>exact h.elim
theorem s_ForS(S0:Sound w P d)(IHa:IHn w P d (n+1)){t it:Expr}{b o:List Stmt}{p:Pos}{K:KF}(h:stp w P (vc w P n) (.S (.For t it b o p) fr z.st K))(ev:EnvOk z.y fr env):W w d FRel K z (exec (.For t it b o p) env):=fun A E ha ok=>by
 have h0:=zm h
 clear h
 have h1:=(zx (zx h0.1).1).1
 have h:=h0.2
 have h2:=(zx (zx h0.1).1).2
 have h3:=(zx h0.1).2
 clear h0
 obtain⟨i,tp,rfl⟩:=xw h2
 obtain rfl:o=[]:=List.isEmpty_iff.mp h3
 refine wpAny_For ((IHa n (Nat.lt_succ_self n) _ h z env rfl ev).go ok ha fun z1 x xu S1 o1 q1 k1=> ?_) (xR h1)
 have fin:∀{it' s},codeAny (model pw w) A (.forLoop (.Name i tp) it' b [] env) (xr w A env E K z1) s→codeAny (model pw w) A (.forLoop (.Name i tp) it' b [] env) (xr w A env E K z) s:=fun h=>
  codeAny_mono h fun r s' q=>by
   rcases r with e|f
   ·exact q
   ·exact q.from S1
 rcases xE k1 with⟨tr,e,k1⟩|⟨_,k1⟩
 ·exact wm (S0.forl _ _ _ _ _ _ _ _ _ _ _ e k1 (S1.env ev) q1 ha o1) fun it' s q=>fin q
 ·obtain⟨t,e,kt⟩:=zr k1
  refine wm (S0.iter _ _ _ _ _ _ _ e kt q1 ha o1) fun it' s q=> ?_
  rcases q with⟨L,k2⟩
  exact fin (s_For IHa k2 ha o1 L (L.step.env (S1.env ev)))
theorem s_S(S0:Sound w P d)(IHa:IHn w P d (n+1)){e}{K:KF}(h:stp w P (vc w P n) (.S e fr st K)):zW w P d (.S e fr st K):=by
 rintro z env rfl ev A E ha ok
 have IH:∀t,vc w P n t→zW w P d t:=IHa n (Nat.lt_succ_self n)
 induction e using Stmt.casesOn with
 |Expr e p=>exact wpAny_Expr_any ((IH _ (zm h).2 z env rfl ev).go ok ha fun z1 v u S o q k=>.mk S .next k) (inter_false ev) (sw_false (zm h).1)
 |Return e p=>
  induction e with
  |none=>exact wpAny_Return_none (by
    rcases n with _|n
    ·exact h.elim
    ·exact ok.rep.end (.ret .non) h)
  |some e=>
   rcases n with _|n
   ·exact h.elim
   ·exact wpAny_Return_some ((IHa n (Nat.lt_succ_of_lt (Nat.lt_succ_self n)) _ h z env rfl ev).go ok ha fun z1 v u S o q k=>.mk S (.ret q) k)
 |Assign ts e p=>exact s_Asg S0 IHa h ev A E ha ok
 |AugAssign t op e p=>exact s_Aug S0 IH h ev A E ha ok
 |If t b o p=>exact wpAny_If ((IH _ h z env rfl ev).go ok ha fun z1 c u S o q k=>ite_p (xa k q (fun k=>(IH _ k z1 env rfl (S.env ev)).last o ha S) fun k=>(IH _ k z1 env rfl (S.env ev)).last o ha S))
 |For t it b o p=>exact s_ForS S0 IHa h ev A E ha ok
 |While t b o p=>
  have h0:=zm h
  clear h
  obtain rfl:o=[]:=List.isEmpty_iff.mp h0.1
  rcases xE h0.2 with⟨tr,e,h⟩|⟨_,h⟩
  ·exact wpAny_While (S0.loop _ _ _ _ _ _ _ _ _ e h ev ha ok)
  ·exact wpAny_While (s_Wh IHa h ha ok ev)
 |Pass p=>exact wpAny_Pass (ok.rep.end .next h)
 |_=>exact h.elim
theorem vc_sound(S0:Sound w P d)(n:Nat):IHn w P d n:=by
 induction n with
 |zero=>exact fun m h=>absurd h (Nat.not_lt_zero m)
 |succ n ih=>
  intro m hm t h
  rcases m with _|m
  ·exact h.elim
  ·have IHa:IHn w P d (m+1):=fun k hk=>ih k (Nat.lt_of_lt_of_le hk (Nat.le_of_lt_succ hm))
   have IH:∀t,vc w P m t→zW w P d t:=IHa m (Nat.lt_succ_self m)
   induction t using Task.casesOn with
   |E e fr st K=>exact s_E S0 IH (s_LComp S0 IH) h
   |Eo e fr st K=>exact s_Eo IH h
   |Es es fr st K=>exact s_Es IH h
   |Ks es fr st K=>exact s_Ks IH h
   |T e fr st K=>exact s_T IH S0 h
   |TA op e fr st K=>exact s_TA IH h
   |Ifs e fr st K=>exact s_Ifs IH h
   |A e v fr st K=>exact s_A IH S0 h
   |As e v fr st K=>exact s_As IH h
   |S e fr st K=>exact s_S S0 IHa h
   |Ss e fr st K=>exact s_Ss IH h
   |For=>exact trivial
   |Wh=>exact trivial
   |LC=>exact s_LC S0 (fun k hk=>ih k (Nat.lt_of_lt_of_le hk (Nat.le_of_lt_succ hm))) h
theorem ya(S0:Sound w P d){n t}(h:vc w P n t):zW w P d t:=vc_sound S0 (n+1) n (Nat.lt_succ_self n) t h
end
noncomputable abbrev Tr:=Option (KV→Prop)
noncomputable abbrev OpH:=Op→List SV→St→Tr
noncomputable def OpOk(w:World)(d:Nat)(h:OpH):Prop:=∀o xs t K z vs,h o xs z.st=some t→t K→VRels z.y xs vs→OpW w d K z o vs
noncomputable def h1(g:Op→Option α)(f:α→SV→St→Tr):OpH:=fun o xs st=>(g o).bind fun p=>match xs with
 | [x]=>f p x st
 |_=>none
noncomputable def h2(g:Op→Option α)(f:α→SV→SV→St→Tr):OpH:=fun o xs st=>(g o).bind fun p=>match xs with
 | [x,y]=>f p x y st
 |_=>none
noncomputable def h3(g:Op→Option α)(f:α→SV→SV→SV→St→Tr):OpH:=fun o xs st=>(g o).bind fun p=>match xs with
 | [x,y,z]=>f p x y z st
 |_=>none
noncomputable def x6:Op→Option Operator| .bin o=>some o|_=>none
noncomputable def oInp:Op→Option Operator| .inp o=>some o|_=>none
noncomputable def x5:Op→Option CmpOp| .cmp o=>some o|_=>none
noncomputable def oUna:Op→Option UnaryOp| .una o=>some o|_=>none
noncomputable def oAtt:Op→Option Str| .attr n=>some n|_=>none
noncomputable def oSeA:Op→Option Str| .setA n=>some n|_=>none
noncomputable def wd:Op→Option Unit| .sub=>some ()|_=>none
noncomputable def oSeI:Op→Option Unit| .setI=>some ()|_=>none
section
variable {w:World}{d:Nat}{α:Type}{g:Op→Option α}
theorem h1_ok{c:α→Op}(hg:∀o p,g o=some p→o=c p){f:α→SV→St→Tr}(h:∀p x t K z v,f p x z.st=some t→t K→VRel z.y x v→OpW w d K z (c p) [v]):OpOk w d (h1 g f):=fun o xs t K z vs e k q=>by
 obtain⟨p,e1,e⟩:=zz e
 rcases xs with _|⟨x,_|⟨_,_⟩⟩
 ·exact(zu rfl e).elim
 ·obtain⟨v,rfl,q1⟩:=q.one;exact hg o p e1▸h p x t K z v e k q1
 ·exact(zu rfl e).elim
theorem zH{c:α→Op}(hg:∀o p,g o=some p→o=c p){f:α→SV→SV→St→Tr}(h:∀p x y t K z v u,f p x y z.st=some t→t K→VRel z.y x v→VRel z.y y u→OpW w d K z (c p) [v,u]):OpOk w d (h2 g f):=fun o xs t K z vs e k q=>by
 obtain⟨p,e1,e⟩:=zz e
 rcases xs with _|⟨x,_|⟨y,_|⟨_,_⟩⟩⟩
 ·exact(zu rfl e).elim
 ·exact(zu rfl e).elim
 ·obtain⟨v,u,rfl,q1,q2⟩:=q.two;exact hg o p e1▸h p x y t K z v u e k q1 q2
 ·exact(zu rfl e).elim
theorem h3_ok{c:α→Op}(hg:∀o p,g o=some p→o=c p){f:α→SV→SV→SV→St→Tr}(h:∀p x y a t K z v u r,f p x y a z.st=some t→t K→VRel z.y x v→VRel z.y y u→VRel z.y a r→OpW w d K z (c p) [v,u,r]):OpOk w d (h3 g f):=fun o xs t K z vs e k q=>by
 obtain⟨p,e1,e⟩:=zz e
 rcases xs with _|⟨x,_|⟨y,_|⟨a,_|⟨_,_⟩⟩⟩⟩
 ·exact(zu rfl e).elim
 ·exact(zu rfl e).elim
 ·exact(zu rfl e).elim
 ·obtain⟨v,u,r,rfl,q1,q2,q3⟩:=q.three;exact hg o p e1▸h p x y a t K z v u r e k q1 q2 q3
 ·exact(zu rfl e).elim
theorem yO(o p)(h:x6 o=some p):o= .bin p:=by rcases o<;>first|(cases h;rfl)|exact(zu rfl h).elim
theorem oInp_ok(o p)(h:oInp o=some p):o= .inp p:=by rcases o<;>first|(cases h;rfl)|exact(zu rfl h).elim
theorem yP(o p)(h:x5 o=some p):o= .cmp p:=by rcases o<;>first|(cases h;rfl)|exact(zu rfl h).elim
theorem oUna_ok(o p)(h:oUna o=some p):o= .una p:=by rcases o<;>first|(cases h;rfl)|exact(zu rfl h).elim
theorem oAtt_ok(o p)(h:oAtt o=some p):o= .attr p:=by rcases o<;>first|(cases h;rfl)|exact(zu rfl h).elim
theorem oSeA_ok(o p)(h:oSeA o=some p):o= .setA p:=by rcases o<;>first|(cases h;rfl)|exact(zu rfl h).elim
theorem xV(o p)(h:wd o=some p):o= .sub:=by rcases o<;>first|rfl|exact(zu rfl h).elim
theorem oSeI_ok(o p)(h:oSeI o=some p):o= .setI:=by rcases o<;>first|rfl|exact(zu rfl h).elim
end
noncomputable def binI(op:Operator)(a b:Int)(K:Int→Prop):Prop:=match op with
 | .Add=>K (a+b)
 | .Sub=>K (a-b)
 | .Mult=>IntMulOk a b∧K (a*b)
 | .FloorDiv=>(b≠0∧Builtin.divisionGoesByPylong a b=false)∧K (a.fdiv b)
 | .Mod=>b≠0∧K (a.fmod b)
 | .Pow=>(0≤b∧b≤1000000∧a.natAbs<2^64)∧K (a^b.toNat)
 |_=>False
noncomputable def twoN(x y:SV)(f:Bool→Int→Int→KV→Prop):Tr:=(asN x).bind fun p=>(asN y).bind fun q=>some (f (p.1||q.1) p.2 q.2)
noncomputable def binN:Operator→SV→SV→St→Tr:=fun op x y st=>twoN x y fun s a b K=>binI op a b fun z=>K (.num s z) st
noncomputable def isAdd(op:Operator):Bool:=match op with
 | .Add=>true
 |_=>false
noncomputable def inpN:Operator→SV→SV→St→Tr:=fun op x y st=>zj (isAdd op) (twoN x y fun s a b K=>K (.num s (a+b)) st)
noncomputable def isNeg(op:UnaryOp):Bool:=match op with
 | .USub=>true
 |_=>false
noncomputable def unaN:UnaryOp→SV→St→Tr:=fun op x st=>zj (isNeg op) ((asN x).bind fun p=>some fun K=>K (.num p.1 (-p.2)) st)
noncomputable def cmpI(op:CmpOp)(a b:Int):Option Bool:=match op with
 | .Eq=>some (a==b)
 | .NotEq=>some (a !=b)
 | .Lt=>some (decide (a<b))
 | .LtE=>some (decide (a≤b))
 | .Gt=>some (decide (b<a))
 | .GtE=>some (decide (b≤a))
 |_=>none
noncomputable def cmpN:CmpOp→SV→SV→St→Tr:=fun op x y st=>(asN x).bind fun p=>(asN y).bind fun q=>(cmpI op p.2 q.2).bind fun c=>some fun K=>K (.tf (p.1||q.1) c) st
noncomputable def binS:Operator→SV→SV→St→Tr:=fun op x y st=>zj (isAdd op) ((asS x).bind fun a=>(asS y).bind fun b=>some fun K=>a.length+b.length≤sizeLine∧K (.str (a++b)) st)
noncomputable def binL:Operator→SV→SV→St→Tr:=fun op x y st=>zj (isAdd op) ((zZ st x).bind fun a=>(zZ st y).bind fun b=>zj ((zt a&&zt b) &&((nsIx st).isSome&&Nat.ble (a.length+b.length) sizeLine)) (some fun K=>K (.vlist (a++b)) st))
noncomputable def sg(b c:Bool):Bool:=match b with
 |true=>c
 |false=> !c
noncomputable def eqOp(op:CmpOp):Option Bool:=match op with
 | .Eq=>some true
 | .NotEq=>some false
 |_=>none
noncomputable def isOp(op:CmpOp):Option Bool:=match op with
 | .Is=>some true
 | .IsNot=>some false
 |_=>none
noncomputable def inOp(op:CmpOp):Option Bool:=match op with
 | .In=>some true
 | .NotIn=>some false
 |_=>none
noncomputable def cmpS:CmpOp→SV→SV→St→Tr:=fun op x y st=>(eqOp op).bind fun b=>(asS x).bind fun s=>(asS y).bind fun t=>some fun K=>K (.bool (sg b (s==t))) st
noncomputable def noneQ(x:SV):Option Bool:=match x with
 | .non=>some true
 | .top _=>none
 | .rng _ _=>none
 | .slc _ _=>none
 | .obj _ _=>none
 | .iset _=>none
 |_=>some false
noncomputable def cmpIs:CmpOp→SV→SV→St→Tr:=fun op x y st=>(isOp op).bind fun b=>(noneQ y).bind fun c=>zj c ((noneQ x).bind fun c=>some fun K=>K (.bool (sg b c)) st)
noncomputable def zJ(f:SV→Option β):List SV→Option (List β)
 | []=>some []
 |x::r=>(f x).bind fun b=>(zJ f r).bind fun l=>some (b::l)
noncomputable def symL(xs:List SV):Bool:=match xs with
 | .num s _::_=>s
 |_=>false
noncomputable def cmpInI:CmpOp→SV→SV→St→Tr:=fun op x y st=>(inOp op).bind fun b=>(asN x).bind fun p=>(zZ st y).bind fun xs=>(zJ asN xs).bind fun l=>some fun K=>K (.tf (p.1||symL xs) (sg b (l.any fun q=>q.2==p.2))) st
noncomputable def cmpInS:CmpOp→SV→SV→St→Tr:=fun op x y st=>(inOp op).bind fun b=>(asS x).bind fun s=>match zZ st y with
 |some xs=>zj b ((zJ asS xs).bind fun l=>some fun K=>K (.bool (l.any fun x=>x==s)) st)
 |none=>(asT y).bind fun xs=>(zJ asS xs).bind fun l=>some fun K=>K (.bool (sg b (l.any fun x=>x==s))) st
section
variable {w:World}{d:Nat}{z:Z}{K:KV}{A:Around}{E:Value→Shared→Prop}
theorem int_un{p:Bool×Int}{x:SV}{v:Value}{y:Y}(h:asN x=some p)(q:VRel y x v):∃t,v= .int p.2 t:=zL h q
theorem Rep.endN(r:Rep z){s:Bool}{i:Int}{t tk:Tok}(k:K (.num s i) z.st):Post VRel K z (.int i t) {z.s with toks:=tk}:=r.endT .num k
theorem Rep.endB(r:Rep z){s:Bool}{b:Bool}(k:K (.tf s b) z.st):Post VRel K z (.bool b) z.s:=r.end .tf k
theorem twoN_of{x y:SV}{f t}(h:twoN x y f=some t){v u:Value}{Y0:Y}(q:VRel Y0 x v)(q2:VRel Y0 y u):∃s a b m n,v= .int a m∧u= .int b n∧t=f s a b:=by
 obtain⟨p,e1,h⟩:=zz h
 obtain⟨r,e2,h⟩:=zz h
 obtain⟨m,rfl⟩:=zL e1 q
 obtain⟨n,rfl⟩:=zL e2 q2
 cases h;exact⟨_,_,_,m,n,rfl,rfl,rfl⟩
theorem binN_ok:OpOk w d (h2 x6 binN):=zH yO fun op x y t K z v u e k q q2 A E _ ok=>by
 obtain⟨s,a,b,m,n,rfl,rfl,rfl⟩:=twoN_of e q q2
 induction op using Operator.casesOn with
 |Add=>exact add_int (ok.rep.endN k)
 |Sub=>exact sub_int (ok.rep.endN k)
 |Mult=>exact mul_int (ok.rep.endN k.2) k.1
 |FloorDiv=>exact floordiv_int k.1.1 (ok.rep.endN k.2) (.inl k.1.2)
 |Mod=>exact mod_int' k.1 (ok.rep.endN k.2)
 |Pow=>exact pow_int_small k.1.1 k.1.2.1 k.1.2.2 (ok.rep.endN k.2)
 |_=>exact k.elim
theorem inpN_ok:OpOk w d (h2 oInp inpN):=zH oInp_ok fun op x y t K z v u e k q q2 A E _ ok=>by
 obtain⟨e0,e⟩:=zv e
 obtain⟨s,a,b,m,n,rfl,rfl,rfl⟩:=twoN_of e q q2
 induction op using Operator.casesOn with
 |Add=>exact iadd_int (ok.rep.endN k)
 |_=>exact Bool.noConfusion e0
theorem unaN_ok:OpOk w d (h1 oUna unaN):=h1_ok oUna_ok fun op x t K z v e k q A E _ ok=>by
 obtain⟨e0,e⟩:=zv e
 obtain⟨p,e1,e⟩:=zz e
 obtain⟨m,rfl⟩:=zL e1 q
 cases e
 induction op using UnaryOp.casesOn with
 |USub=>exact neg_int (ok.rep.endN k)
 |_=>exact Bool.noConfusion e0
theorem cmpN_ok:OpOk w d (h2 x5 cmpN):=zH yP fun op x y t K z v u e k q q2 A E _ ok=>by
 obtain⟨p,e1,e⟩:=zz e
 obtain⟨r,e2,e⟩:=zz e
 obtain⟨m,rfl⟩:=zL e1 q
 obtain⟨n,rfl⟩:=zL e2 q2
 obtain⟨c,e3,e⟩:=zz e
 cases e
 have q:=ok.rep.endB k
 clear k
 induction op using CmpOp.casesOn with
 |Eq=>exact eq_int ((Option.some.inj e3).symm▸q)
 |NotEq=>exact ne_int ((Option.some.inj e3).symm▸q)
 |Lt=>exact lt_int ((Option.some.inj e3).symm▸q)
 |LtE=>exact le_int ((Option.some.inj e3).symm▸q)
 |Gt=>exact gt_int ((Option.some.inj e3).symm▸q)
 |GtE=>exact ge_int ((Option.some.inj e3).symm▸q)
 |_=>exact(zu rfl e3).elim
theorem binS_ok:OpOk w d (h2 x6 binS):=zH yO fun op x y t K z v u e k q q2 A E _ ok=>by
 obtain⟨e0,e⟩:=zv e
 obtain⟨a,e1,e⟩:=zz e
 obtain⟨b,e2,e⟩:=zz e
 obtain⟨m,rfl⟩:=wn e1 q
 obtain⟨n,rfl⟩:=wn e2 q2
 cases e
 induction op using Operator.casesOn with
 |Add=>exact add_str (fun t' tk=>ok.rep.endT .str k.2) k.1
 |_=>exact Bool.noConfusion e0
theorem binL_ok:OpOk w d (h2 x6 binL):=zH yO fun op x y t K z v u e k q q2 A E _ ok=>by
 obtain⟨e0,e⟩:=zv e
 obtain⟨a,e1,e⟩:=zz e
 obtain⟨b,e2,e⟩:=zz e
 obtain⟨hl,e⟩:=zv e
 cases e
 have r:=ok.rep
 rcases zY e1 r q with⟨o1,q1⟩
 rcases zY e2 r q2 with⟨o2,q3⟩
 obtain⟨hp,hl⟩:=zx hl
 obtain⟨fi,fc,ff,t⟩:=nsIx_of (zx hl).1
 obtain⟨m,news,F⟩:=r.frame t
 have hl:=Nat.le_of_ble_eq_true (zx hl).2
 induction op using Operator.casesOn with
 |Add=>
  refine add_lists F.F F.N (by rw [Array.toArray_toList];exact zU o1) (by rw [Array.toArray_toList];exact zU o2) (fun h' F' N'=> ?_) (by rw [←q1.length,←q3.length];exact hl)
  have S:=F.back h' F' fun p hp=>N' p (List.mem_cons_of_mem _ hp)
  have S2:=S.addG ⟨zh _,r.free.gn,r.free.out⟩ (N' _ List.mem_cons_self).1
  exact .mk S2 (.vlist (pureL_app (zx hp).1 (zx hp).2) (vs:=(_++_:List Value).toArray) (k:=0) (if_pos rfl) (S2.vals (q1.append q3))) k
 |_=>exact Bool.noConfusion e0
end
section
variable {w:World}{d:Nat}{z:Z}{K:KV}{A:Around}{E:Value→Shared→Prop}{x:SV}{v:Value}{y:Y}
theorem eqOp_ok{op:CmpOp}{b}(h:eqOp op=some b):op=if b=true then .Eq else .NotEq:=by
 rcases op<;>first|(cases h;rfl)|exact(zu rfl h).elim
theorem isOp_ok{op:CmpOp}{b}(h:isOp op=some b):op=if b=true then .Is else .IsNot:=by
 rcases op<;>first|(cases h;rfl)|exact(zu rfl h).elim
theorem inOp_ok{op:CmpOp}{b}(h:inOp op=some b):op=if b=true then .In else .NotIn:=by
 rcases op<;>first|(cases h;rfl)|exact(zu rfl h).elim
theorem cmpS_ok:OpOk w d (h2 x5 cmpS):=zH yP fun op x y t K z v u e k q q2 A E _ ok=>by
 obtain⟨b,e0,e⟩:=zz e
 obtain⟨s,e1,e⟩:=zz e
 obtain⟨t,e2,e⟩:=zz e
 obtain⟨m,rfl⟩:=wn e1 q
 obtain⟨n,rfl⟩:=wn e2 q2
 cases e
 rw [eqOp_ok e0]
 rcases b with _|_
 ·exact PyProof.Rows.ne_str (ok.rep.endB k)
 ·exact PyProof.Rows.eq_str (ok.rep.endB k)
theorem none_ok{b}(h:noneQ x=some b)(q:VRel y x v):if b=true then v= .none else plainIs v Value.none=true∧v≠ .none:=by
 have q:=q.inv
 have no:∀{c:Prop} {v:Value},some false=some b→(plainIs v Value.none=true∧v≠Value.none)→if b=true then c else plainIs v Value.none=true∧v≠Value.none:=fun e h=>Option.some.inj e▸h
 induction x using SV.casesOn with
 |non=>exact Option.some.inj h▸q
 |tf=>cases q;exact no h ⟨rfl,fun q=>Value.noConfusion q⟩
 |num=>obtain⟨_,rfl⟩:=q;exact no h ⟨rfl,fun q=>Value.noConfusion q⟩
 |str=>obtain⟨_,rfl⟩:=q;exact no h ⟨rfl,fun q=>Value.noConfusion q⟩
 |ref=>obtain⟨_,rfl⟩:=q;exact no h ⟨rfl,fun q=>Value.noConfusion q⟩
 |vlist=>obtain⟨_,⟨_,_⟩⟩:=q;exact no h ⟨rfl,fun q=>Value.noConfusion q⟩
 |frac|tup|vset|vinst=>cases q;exact no h ⟨rfl,fun q=>Value.noConfusion q⟩
 |_=>exact(zu rfl h).elim
theorem cmpIs_ok:OpOk w d (h2 x5 cmpIs):=zH yP fun op x y t K z v u e k q q2 A E _ ok=>by
 obtain⟨b,e0,e⟩:=zz e
 obtain⟨c,e1,e⟩:=zz e
 obtain⟨rfl,e⟩:=zv e
 obtain⟨c,e2,e⟩:=zz e
 cases e
 rw [isOp_ok e0]
 obtain rfl:u= .none:=none_ok e1 q2
 have h:=none_ok e2 q
 have p:=ok.rep.endB k
 rcases b with _|_<;>rcases c with _|_
 ·exact wpAny_isNot_other h.1 h.2 p
 ·obtain rfl:v= .none:=h;exact isnot_none_none p
 ·exact wpAny_is_other h.1 h.2 p
 ·obtain rfl:v= .none:=h;exact is_none_none p
theorem ints_are{xs:List SV}{vs:List Value}(q:VRels y xs vs):∀{l},zJ asN xs=some l→IntsAre vs (l.map (·.2)):=by
 induction q with
 |nil=>exact fun h=>by cases h;exact .nil
 |cons a _ ih=>
  intro l h
  obtain⟨p,e,h⟩:=zz h
  obtain⟨l,e2,h⟩:=zz h
  cases h
  obtain⟨t,rfl⟩:=zL e a
  exact .cons _ _ (ih e2)
theorem strs_are{xs:List SV}{vs:List Value}(q:VRels y xs vs):∀{l},zJ asS xs=some l→StrsAre vs l:=by
 induction q with
 |nil=>exact fun h=>by cases h;exact .nil
 |cons a _ ih=>
  intro l h
  obtain⟨p,e,h⟩:=zz h
  obtain⟨l,e2,h⟩:=zz h
  cases h
  obtain⟨t,rfl⟩:=wn e a
  exact .cons _ _ (ih e2)
theorem cmpInI_ok:OpOk w d (h2 x5 cmpInI):=zH yP fun op x y t K z v u e k q q2 A E _ ok=>by
 obtain⟨b,e0,e⟩:=zz e
 obtain⟨p,e1,e⟩:=zz e
 obtain⟨xs,e2,e⟩:=zz e
 obtain⟨l,e3,e⟩:=zz e
 obtain⟨m,rfl⟩:=zL e1 q
 cases e
 rw [inOp_ok e0]
 rcases zY e2 ok.rep q2 with⟨o,q3⟩
 have hl:=zU o
 have hi:=ints_are q3 e3
 have p:=ok.rep.endB k
 have ea:∀c:Int,(l.map (·.2)).any (fun x=>x==c)=l.any fun q=>q.2==c:=fun c=>List.any_map
 rcases b with _|_
 ·exact notin_list_ints (by rw [Array.toArray_toList];exact hl) hi (by rw [ea];exact p)
 ·exact in_list_ints (by rw [Array.toArray_toList];exact hl) hi (by rw [ea];exact p)
theorem cmpInS_ok:OpOk w d (h2 x5 cmpInS):=zH yP fun op x y t K z v u e k q q2 A E _ ok=>by
 obtain⟨b,e0,e⟩:=zz e
 obtain⟨s,e1,e⟩:=zz e
 obtain⟨m,rfl⟩:=wn e1 q
 rw [inOp_ok e0]
 generalize hy:zZ z.st y=o at e
 rcases o with _|xs
 ·obtain⟨xs,e2,e⟩:=zz e
  obtain⟨l,e3,e⟩:=zz e
  cases e
  rcases(xQ e2▸q2).inv with⟨g,q3⟩
  have hi:=strs_are q3 e3
  have ht:IsTup z.s.heap _ _:=⟨_,ok.rep.sub _ _ g,rfl,_,rfl⟩
  have p:=ok.rep.endB k
  rcases b with _|_
  ·exact notin_tuple_strs ht hi p
  ·exact in_tuple_strs ht hi p
 ·obtain⟨rfl,e⟩:=zv e
  obtain⟨l,e3,e⟩:=zz e
  cases e
  rcases zY hy ok.rep q2 with⟨o,q3⟩
  exact in_list_strs (by rw [Array.toArray_toList];exact zU o) (strs_are q3 e3) (ok.rep.endB k)
end
noncomputable def place(k:Int)(n:Nat):Option Nat:=match k with
 | .ofNat j=>zj (Nat.blt j n) (some j)
 | .negSucc j=>zj (Nat.ble (j+1) n) (some (n-(j+1)))
noncomputable def w9(x:SV):Option Int:=(asN x).bind fun p=>zj (!p.1) (some p.2)
noncomputable def nthT(xs:List SV)(i:SV)(st:St):Tr:=(w9 i).bind fun k=>zj (Nat.ble xs.length 1000000) ((place k xs.length).bind fun j=>xs[j]?.bind fun v=>some fun K=>K v st)
noncomputable def subL:Unit→SV→SV→St→Tr:=fun _ x i st=>(zZ st x).bind fun xs=>nthT xs i st
noncomputable def subT:Unit→SV→SV→St→Tr:=fun _ x i st=>(asT x).bind fun xs=>nthT xs i st
section
variable {w:World}{d:Nat}{z:Z}{K:KV}{A:Around}{E:Value→Shared→Prop}{x:SV}{v:Value}{y:Y}
theorem VRels.at{xs:List SV}{vs:List Value}(q:VRels y xs vs):∀{j:Nat} {v:SV},xs[j]? =some v→∃u,vs[j]? =some u∧VRel y v u:=by
 induction q with
 |nil=>exact fun h=>(zu rfl h).elim
 |cons a _ ih=>
  intro j v h
  induction j with
  |zero=>exact⟨_,rfl,Option.some.inj h▸a⟩
  |succ j _=>exact ih h
theorem place_ok{k:Int}{n j:Nat}(h:place k n=some j):j<n∧((0≤k∧k=j)∨(k<0∧k+n=j)):=by
 rcases k with i|i
 ·obtain⟨h1,h⟩:=zv h
  cases h
  exact⟨Nat.le_of_ble_eq_true h1,.inl ⟨Int.natCast_nonneg _,rfl⟩⟩
 ·obtain⟨h1,h⟩:=zv h
  cases h
  have hle:=Nat.le_of_ble_eq_true h1
  exact⟨Nat.sub_lt (Nat.lt_of_lt_of_le (Nat.succ_pos _) hle) (Nat.succ_pos _),.inr ⟨Int.negSucc_lt_zero _,(Int.add_comm ..).trans (Int.subNatNat_of_le hle)⟩⟩
inductive NthI(xs:List SV)(i:SV)(st:St)(t:KV→Prop):Prop
 |mk {k j v}:w9 i=some k→xs.length≤1000000→j<xs.length→((0≤k∧k=j)∨(k<0∧k+xs.length=j))→xs[j]? =some v→t=(fun K=>K v st)→NthI xs i st t
theorem nthT_ok{xs:List SV}{i:SV}{st:St}{t}(h:nthT xs i st=some t):NthI xs i st t:=by
 obtain⟨k,e1,h⟩:=zz h
 obtain⟨e2,h⟩:=zv h
 obtain⟨j,e3,h⟩:=zz h
 obtain⟨v,e4,h⟩:=zz h
 cases h
 exact .mk e1 (Nat.le_of_ble_eq_true e2) (place_ok e3).1 (place_ok e3).2 e4 rfl
theorem yz{k}(h:w9 x=some k)(q:VRel y x v):∃t,v= .int k t:=by
 obtain⟨p,e,h⟩:=zz h
 obtain⟨_,h⟩:=zv h
 cases h;exact zL e q
theorem seq_place{k:Int}{n j:Nat}(hj:j<n)(h:(0≤k∧k=j)∨(k<0∧k+n=j)):seqIndex? k n=some j:=by
 have e:(if k<0 then k+n else k)=(j:Int):=h.elim (fun h=>(if_neg (Int.not_lt.mpr h.1)).trans h.2) fun h=>(if_pos h.1).trans h.2
 unfold seqIndex?
 rw [e]
 exact if_pos ((Bool.and_eq_true _ _).mpr ⟨decide_eq_true (Int.natCast_nonneg j),decide_eq_true (Int.ofNat_lt.mpr hj)⟩)
theorem subL_ok:OpOk w d (h2 wd subL):=zH (c:=fun _=>.sub) xV fun _ x i t K z v u e k q q2=>by
 obtain⟨xs,e1,e⟩:=zz e
 rcases nthT_ok e with⟨h1,hl,hj,hk,hv,rfl⟩
 obtain⟨m,rfl⟩:=yz h1 q2
 refine⟨fun A E _ ok=> ?_,fun ok=> ?_⟩
 ·rcases zY e1 ok.rep q with⟨o,q3⟩
  obtain⟨u,h4,h5⟩:=q3.at hv
  rw [Array.getElem?_toList]at h4
  rw [q3.size]at hk hl hj
  rcases hk with⟨c1,c2⟩|⟨c1,c2⟩
  ·exact wpAny_getItem_list (zU o) c1 (by omega) (by rw [c2];exact h4) (ok.rep.end h5 k)
  ·exact wpAny_getItem_list_neg (zU o) c1 (by omega) (by omega) (by rw [c2];exact h4) (ok.rep.end h5 k)
 ·rcases zY e1 ok.rep q with⟨o,_⟩
  exact⟨"list","list.__getitem__",(zU o).typeIs,slot_list_getitem.lookup⟩
theorem subT_ok:OpOk w d (h2 wd subT):=zH (c:=fun _=>.sub) xV fun _ x i t K z v u e k q q2=>by
 obtain⟨xs,e1,e⟩:=zz e
 rcases nthT_ok e with⟨h1,hl,hj,hk,hv,rfl⟩
 obtain⟨m,rfl⟩:=yz h1 q2
 rcases(xQ e1▸q).inv with⟨g,q3⟩
 have ht:∀ok:Ok w z,IsTup z.s.heap _ _:=fun ok=>⟨_,ok.rep.sub _ _ g,rfl,_,rfl⟩
 refine⟨fun A E _ ok=> ?_,fun ok=>⟨"tuple","tuple.__getitem__",(ht ok).typeIs,slot_tuple_getitem.lookup⟩⟩
 obtain⟨u,h4,h5⟩:=q3.at hv
 rw [Array.getElem?_toList]at h4
 rw [q3.size]at hk hl hj
 exact PyProof.Rows.getItem_tuple (ht ok) (by omega) (by omega) (seq_place hj hk) h4 (ok.rep.end h5 k)
noncomputable def attrOk(K:Frag)(C:Addr)(n:Str):Bool:=hasDictIn K C&&(findIn K (.ref C) n==some none) &&(findIn K (.ref C) "__getattribute__"==some (some (.builtin "object.__getattribute__")))
theorem look_of{o:Obj}{m:Str→Option Value}(h:xt o m)(name:Str):lookIn name o=some (m name):=by
 obtain⟨es,ep,h1,h2,h3⟩:=h
 unfold lookIn
 rw [h1]
 dsimp only
 have h4:=h3 name
 unfold nsFind findBy at h4
 rw [←Array.find?_toList]at h4
 cases q:es.toList.find? (fun e=>e.key.isStr name)with
 |some e=>
  rw [q]at h4
  rw [←h4];rfl
 |none=>
  rw [q]at h4
  have:es.toList.any (·.refKey)=false:=by
   rw [List.any_eq_false]
   intro e he
   obtain⟨a,t,hk⟩:=h2 e (Array.mem_toList_iff.mp he)
   unfold DictEntry.refKey;rw [hk];exact Bool.false_ne_true
  dsimp only
  rw [this,←h4];rfl
end
noncomputable def noTop(x:SV):Bool:=match x with
 | .top _=>false
 |_=>true
noncomputable def asInst(st:St)(d:Nat):Option (List (Str×SV)):=match st.own.lookup d with
 |some (.inst fs)=>some fs
 |_=>none
noncomputable def attF(q:Rat)(n:Str):Option SV:=match n=="numerator",n=="denominator" with
 |true,_=>some (.sint q.num)
 |_,true=>some (.sint q.den)
 |_,_=>none
noncomputable def attX(x:SV)(n:Str)(st:St):Option (Addr×Option SV):=match x with
 | .frac q=>some (CF,attF q n)
 | .vinst C fs=>some (C,fs.lookup n)
 | .obj C d=>(asInst st d).bind fun fs=>some (C,fs.lookup n)
 |_=>none
noncomputable def attA(w:World):Str→SV→St→Tr:=fun n x st=>(attX x n st).bind fun p=>zj (attrOk (KH w.params) p.1 n) (p.2.bind fun v=>zj (noTop v) (some fun K=>K v st))
section
variable {w:World}{d:Nat}{z:Z}{K:KV}{A:Around}{E:Value→Shared→Prop}{x:SV}{v:Value}{y:Y}
theorem noTop_hand(q:VRel y x v)(h:noTop x=true):handedIn v=true:=by
 cases q<;>first|rfl|exact Bool.noConfusion h
theorem xb{st:St}{d}{fs}(h:asInst st d=some fs):Has st d (.inst fs):=by
 have:∀o:Option SO,(match o with|some (.inst fs)=>some fs|_=>none)=some fs→o=some (.inst fs):=fun o h=>by
  induction o with
  |none=>cases h
  |some so=>induction so with
   |inst ys=>cases h;rfl
   |_=>exact(zu rfl h).elim
 exact this _ h
inductive AttI(z:Z)(C:Addr)(o:Option SV)(n:Str):Value→Prop
 |mk {a d od m}:z.At a (instObj C d)→z.At d od→xt od m→(∀sv,o=some sv→∃u,m n=some u∧VRel z.y sv u)→AttI z C o n (.ref a)
theorem attX_ok{n:Str}{p}(h:attX x n z.st=some p)(r:Rep z)(q:VRel z.y x v):AttI z p.1 p.2 n v:=by
 have q:=q.inv
 induction x using SV.casesOn with
 |frac r'=>
  cases h
  rcases q with⟨a,b,c⟩
  refine .mk (r.sub _ _ a) (r.sub _ _ b) c fun sv e=> ?_
  unfold attF at e
  by_cases e1:n="numerator"
  ·subst e1;cases e;exact⟨_,rfl,.num⟩
  ·by_cases e2:n="denominator"
   ·subst e2;cases e;exact⟨_,rfl,.num⟩
   ·rw [beq_false_of_ne e1,beq_false_of_ne e2]at e;exact(zu rfl e).elim
 |vinst C fs=>
  cases h
  rcases q with⟨a,b,c,f⟩
  exact .mk (r.sub _ _ a) (r.sub _ _ b) c fun sv e=>f.lookup n e
 |obj C d=>
  obtain⟨fs,hh,h⟩:=zz h
  cases h
  rcases q with⟨_,a⟩
  obtain⟨o,w⟩:=r.own _ _ (xb hh)
  obtain⟨es,l,k,_,ye,f⟩:=w.rel
  exact .mk (r.sub _ _ a) w.hp (‹o=_› ▸ye.ns _) fun sv e=>f.lookup n e
 |_=>exact(zu rfl h).elim
theorem att_get{n:Str}{p sv}{Q:Value→Shared→Prop}(e1:attX x n z.st=some p)(ho:attrOk (KH w.params) p.1 n=true)(e2:p.2=some sv)(hn:noTop sv=true)(ok:Ok w z)(q:VRel z.y x v)(hQ:∀u tk,VRel z.y sv u→Q u {z.s with toks:=tk}):wpAny (model pw w) A (getAttr v n true) Q E z.s:=by
 rcases attX_ok e1 ok.rep q with⟨g1,g2,hm,hs⟩
 obtain⟨u,hu,qu⟩:=hs sv e2
 obtain⟨ho,h5⟩:=zx ho
 obtain⟨h3,h4⟩:=zx ho
 have X:(KH w.params).In z.s.heap:=fun a o e=>ok.rep.sub a o (ok.base a o e)
 refine get_value X (yo g1 g2) (beq_iff_eq.mp h5) ?_ (noTop_hand qu hn) (hQ u _ qu)
 unfold hasDictIn at h3
 cases hc:clsIn (KH w.params) p.1 with
 |none=>rw [hc]at h3;cases h3
 |some cd=>
  rw [hc]at h3
  have h4:findIn (KH w.params) (.ref p.1) n=some none:=beq_iff_eq.mp h4
  unfold findObj
  rw [hc,h4]
  show(W.ownOf cd _ n).bind _=_
  unfold W.ownOf
  rw [if_pos (show cd.hasDict=true from h3)]
  dsimp only
  rw [look_of hm n,hu];rfl
theorem attA_ok:OpOk w d (h1 oAtt (attA w)):=h1_ok oAtt_ok fun n x t K z v e k q A E _ ok=>by
 obtain⟨p,e1,e⟩:=zz e
 obtain⟨ho,e⟩:=zv e
 obtain⟨sv,e2,e⟩:=zz e
 obtain⟨hn,e⟩:=zv e
 cases e
 exact att_get e1 ho e2 hn ok q fun u tk qu=>ok.rep.endT qu k
end
noncomputable def asObj(x:SV):Option (Addr×Nat):=match x with
 | .obj C d=>some (C,d)
 |_=>none
noncomputable def setOk(K:Frag)(C:Addr)(n:Str):Bool:=(findIn K (.ref C) "__setattr__"==some (some (.builtin "object.__setattr__"))) &&plainOver K C&&(takerIn K C n==some none) &&(clsIn K C).any (·.hasDict)
noncomputable def setA0(w:World):Str→SV→SV→St→Tr:=fun n x y st=>(asObj x).bind fun p=>zj (setOk (KH w.params) p.1 n&&(nsIx st).isSome) ((asInst st p.2).bind fun fs=>zj (Nat.ble fs.length 900) (some fun K=>K .non (st.put p.2 (.inst (Mine.putN n y fs)))))
section
variable {w:World}{d:Nat}{z:Z}{K:KV}{A:Around}{E:Value→Shared→Prop}{x:SV}{v:Value}{y:Y}
theorem asObj_ok{p}(h:asObj x=some p):x= .obj p.1 p.2:=by
 induction x using SV.casesOn with
 |obj=>cases h;rfl
 |_=>exact(zu rfl h).elim
theorem EntL.put{es l}(h:EntL es l)(name:Str)(hsh:Int)(t:Tok)(v:Value):EntL (W.putL name hsh (.str name t) v es) (putV name v l):=by
 induction h with
 |nil=>exact .cons .nil
 | @cons hs t' x u es l h1 ih=>
  show EntL (if(x==name)=true then _ else _) (if x=name then _ else _)
  by_cases hx:x=name
  ·subst hx
   rw [beq_self_eq_true,if_pos rfl,if_pos rfl]
   exact .cons h1
  ·rw [beq_false_of_ne hx,if_neg Bool.false_ne_true,if_neg hx]
   exact .cons ih
theorem putV_len{x:Str}{v:Value}{l:List (Str×Value)}:(putV x v l).length≤l.length+1:=by
 induction l with
 |nil=>exact Nat.le_refl _
 |cons p r ih=>
  show(if p.1=x then _ else _:List _).length≤_
  by_cases h:p.1=x
  ·rw [if_pos h];exact Nat.le_succ _
  ·rw [if_neg h];exact Nat.succ_le_succ ih
theorem setA0_ok:OpOk w d (h2 oSeA (setA0 w)):=zH oSeA_ok fun n x y t K z v u e k q q2 A E _ ok=>by
 obtain⟨⟨C,dx⟩,e1,e⟩:=zz e
 obtain⟨h1,e⟩:=zv e
 obtain⟨fs,e2,e⟩:=zz e
 obtain⟨h2,e⟩:=zv e
 cases e
 rcases(asObj_ok e1▸q).inv with⟨hd,g⟩
 obtain⟨h1,ht⟩:=zx h1
 obtain⟨fi,fc,ff,t⟩:=nsIx_of ht
 obtain⟨h1,e4⟩:=zx h1
 obtain⟨h1,e3⟩:=zx h1
 obtain⟨e1',e2'⟩:=zx h1
 have hl:=xb e2
 have r:=ok.rep
 obtain⟨od,wo⟩:=r.own _ _ hl
 have hp:=wo.hp
 have X:(KH w.params).In z.s.heap:=fun a o e=>r.sub a o (ok.base a o e)
 have hne:z.ρ dx≠z.ρ fi:=fun q=>by
  have:=r.inj dx fi _ _ hl t q
  subst this
  exact SO.noConfusion (Option.some.inj (hl.symm.trans t))
 obtain⟨m,news,F⟩:=r.frame t
 obtain⟨es,l,kk,eo,ye,zf⟩:=wo.rel
 subst eo
 have N:News wb (z.ρ fi) z.s.heap ([]++(z.ρ dx,dictOf es kk)::news.filter fun p=>p.1 !=z.ρ dx):=fun p hp'=>by
  rcases List.mem_cons.mp hp' with rfl|hp'
  ·exact⟨hp,hne,wc _⟩
  ·exact F.N p (List.mem_filter.mp hp').1
 have hle:(W.putL n (PyData.keyHash w.params n) (.str n (z.s.toks+1)) u es).length≤1000:=
  Nat.le_trans (Nat.le_of_eq (ye.put n _ _ u).length) (Nat.le_trans putV_len (Nat.le_trans (Nat.succ_le_succ (Nat.le_trans (Nat.le_of_eq zf.length.symm) (Nat.le_of_ble_eq_true h2))) (by decide)))
 refine set_plain X (yo (r.sub _ _ g) hp) (beq_iff_eq.mp e1') ?_
 refine osa_dict (s:={z.s with toks:=z.s.toks+1}) (pre:=[]) F.F N X (yo (r.sub _ _ g) hp) rfl e2' (beq_iff_eq.mp e3) e4 (by rw [look_of (ye.ns kk) n];rfl) (fun _ q=>(nomatch q)) (fun p hp=>bne_iff_ne.mp (List.mem_filter.mp hp).2) (putName_dict _ _ _ _ _ _) rfl hle fun h' F' N'=> ?_
 obtain⟨o',es',ep',f1,f2⟩:=F'.ns
 exact .u (r.turn2 (k:=fi) (s:={z.s with heap:=h',toks:=_}) hl (fun b o n1 n2 e=>(N' _ (List.mem_cons_of_mem _ (List.mem_filter.mpr ⟨F.mem b o e n2,bne_iff_ne.mpr n1⟩))).1) (N' _ List.mem_cons_self).1 (.inst (ye.put n _ _ u) (zf.put q2))
  (.inr fun x h=>⟨o',f1,Option.some.inj (t.symm.trans h)▸F.nsr o' ⟨es',ep',f2⟩⟩) (.same rfl rfl) (hh:=⟨_,t⟩)) k
end
noncomputable abbrev BT:=List SV→List (Str×SV)→St→Tr
noncomputable def BTOk(w:World)(d:Nat)(v:Value)(T:BT):Prop:=∀xs ks t K z vs kvs,T xs ks z.st=some t→t K→VRels z.y xs vs→FRels z.y ks kvs→W w d VRel K z (call v vs kvs)
noncomputable def b1(f:SV→St→Tr):BT:=fun xs ks st=>match xs,ks with
 | [x],[]=>f x st
 |_,_=>none
noncomputable def b2(f:SV→SV→St→Tr):BT:=fun xs ks st=>match xs,ks with
 | [x,y],[]=>f x y st
 |_,_=>none
noncomputable def lenB:SV→St→Tr:=fun x st=>match zZ st x with
 |some xs=>zj (Nat.ble xs.length 1000000) (some fun K=>K (.int xs.length) st)
 |none=>(asT x).bind fun xs=>zj (Nat.ble xs.length 1000000) (some fun K=>K (.int xs.length) st)
noncomputable def absB:SV→St→Tr:=fun x st=>(asN x).bind fun p=>some fun K=>K (.num p.1 (if p.2<0 then-p.2 else p.2)) st
noncomputable def intB:SV→St→Tr:=fun x st=>(asN x).bind fun p=>some fun K=>K x st
noncomputable def rng1:SV→St→Tr:=fun x st=>(w9 x).bind fun n=>some fun K=>K (.rng 0 n) st
noncomputable def rng2:SV→SV→St→Tr:=fun x y st=>(w9 x).bind fun a=>(w9 y).bind fun b=>some fun K=>K (.rng a b) st
section
variable {w:World}{d:Nat}{z:Z}{K:KV}{A:Around}{E:Value→Shared→Prop}{x:SV}{v:Value}{y:Y}
theorem yx{b:Value}{f}(h:∀x t K z v,f x z.st=some t→t K→VRel z.y x v→W w d VRel K z (call b [v] [])):BTOk w d b (b1 f):=fun xs ks t K z vs kvs e k q qk=>by
 rcases xs with _|⟨x,_|⟨_,_⟩⟩
 ·exact(zu rfl e).elim
 ·rcases ks with _|⟨_,_⟩
  ·obtain⟨v,rfl,q1⟩:=q.one
   obtain rfl:=qk.nil_inv
   exact h x t K z v e k q1
  ·exact(zu rfl e).elim
 ·exact(zu rfl e).elim
theorem b2_ok{b:Value}{f}(h:∀x y t K z v u,f x y z.st=some t→t K→VRel z.y x v→VRel z.y y u→W w d VRel K z (call b [v,u] [])):BTOk w d b (b2 f):=fun xs ks t K z vs kvs e k q qk=>by
 rcases xs with _|⟨x,_|⟨y,_|⟨_,_⟩⟩⟩
 ·exact(zu rfl e).elim
 ·exact(zu rfl e).elim
 ·rcases ks with _|⟨_,_⟩
  ·obtain⟨v,u,rfl,q1,q2⟩:=q.two
   obtain rfl:=qk.nil_inv
   exact h x y t K z v u e k q1 q2
  ·exact(zu rfl e).elim
 ·exact(zu rfl e).elim
theorem lenB_ok:BTOk w d (.builtin "len") (b1 lenB):=yx fun x t K z v e k q A E _ ok=>by
 have big:∀{xs:List SV} {vs:Array Value},VRels z.y xs vs.toList→Nat.ble xs.length 1000000=true→∀{K:KV},K (.int xs.length) z.st→(vs.size:Int)<2^63∧∀t tk,Post VRel K z (.int vs.size t) {z.s with toks:=tk}:=fun q h K k=>
  ⟨Int.ofNat_lt.mpr (Nat.lt_of_le_of_lt (q.size▸Nat.le_of_ble_eq_true h) (show 1000000<2^63 by decide)),fun t tk=>q.size▸ok.rep.endT .num k⟩
 unfold lenB at e
 generalize hx:zZ z.st x=o at e
 rcases o with _|xs
 ·obtain⟨xs,e1,e⟩:=zz e
  obtain⟨hl,e⟩:=zv e
  cases e
  rcases(xQ e1▸q).inv with⟨g,q1⟩
  exact len_tuple ⟨_,ok.rep.sub _ _ g,rfl,_,rfl⟩ (big q1 hl k).1 ((big q1 hl k).2 _ _)
 ·obtain⟨hl,e⟩:=zv e
  cases e
  rcases zY hx ok.rep q with⟨o,q1⟩
  exact len_list (zU o) (big q1 hl k).1 ((big q1 hl k).2 _ _)
theorem absB_ok:BTOk w d (.builtin "abs") (b1 absB):=yx fun x t K z v e k q A E _ ok=>by
 obtain⟨p,e1,e⟩:=zz e
 obtain⟨m,rfl⟩:=zL e1 q
 cases e
 exact call_abs_int fun u tk=>ok.rep.endT .num k
theorem intB_ok:BTOk w d (.type "int") (b1 intB):=yx fun x t K z v e k q A E _ ok=>by
 obtain⟨p,e1,e⟩:=zz e
 obtain⟨m,rfl⟩:=zL e1 q
 cases e
 exact call_int_int (ok.rep.end q k)
theorem rng_new(r:Rep z){a b:Int}{t u v:Tok}{tk:Nat}(k:K (.rng a b) z.st):Post VRel K z (.ref z.new) {z.s with heap:=z.s.heap.push (wY "range" #[.int a t,.int b u,.int 1 v]),toks:=tk}:=
 have S:=(r.grow (s:={z.s with heap:=z.s.heap.push (wY "range" #[.int a t,.int b u,.int 1 v]),toks:=tk}) (fun _ _ e=>Heap.get?_push_of_some _ e) (.same rfl rfl)).addG (a:=z.new) ⟨zh _,r.free.gn,r.free.out⟩ (Heap.get?_push_size _ rfl)
 .mk S (.rng (if_pos rfl)) k
theorem rng1_ok:BTOk w d (.type "range") (b1 rng1):=yx fun x t K z v e k q A E _ ok=>by
 obtain⟨n,e1,e⟩:=zz e
 obtain⟨m,rfl⟩:=yz e1 q
 cases e
 exact call_range_1 (rng_new ok.rep k)
theorem rng2_ok:BTOk w d (.type "range") (b2 rng2):=b2_ok fun x y t K z v u e k q q2 A E _ ok=>by
 obtain⟨a,e1,e⟩:=zz e
 obtain⟨b,e2,e⟩:=zz e
 obtain⟨m,rfl⟩:=yz e1 q
 obtain⟨n,rfl⟩:=yz e2 q2
 cases e
 exact call_range_2 (rng_new ok.rep k)
end
noncomputable def typeSV(x:SV):Option Value:=match x with
 | .num _ _=>some (.type "int")
 | .str _=>some (.type "str")
 | .tf _ _=>some (.type "bool")
 | .frac _=>some (.ref CF)
 | .vinst C _=>some (.ref C)
 | .tup _=>some (.type "tuple")
 | .vlist _=>some (.type "list")
 | .vset _ _=>some (.type "set")
 |_=>none
noncomputable def asTop(x:SV):Option Value:=match x with
 | .top v=>some v
 |_=>none
noncomputable def ownOk(K:Frag)(D:Addr):Bool:=plainGet K D "__class__"&&hasDictIn K D&&(findIn K (.ref D) "__class__"==some (some (.builtin "object.__class__"))) &&
 (specialIn K (.builtin "object.__class__") "__get__"==some (some (.builtin "getset_descriptor.__get__"))) &&(takesIn K (.builtin "object.__class__")==some true) &&(mroIn K D (.type "object")==some true)
noncomputable def clsOk(K:Frag)(t:Value):Bool:=match t with
 | .ref D=>ownOk K D
 |_=>true
noncomputable def isinB(w:World):SV→SV→St→Tr:=fun x c st=>(typeSV x).bind fun t=>zj (clsOk (KH w.params) t) ((match asTop c with
 |some v=>kitOne (KH w.params) t v
 |none=>(asT c).bind fun cs=>(zJ asTop cs).bind fun vs=>kitAny (KH w.params) t vs).bind fun b=>some fun K=>K (.bool b) st)
section
variable {w:World}{d:Nat}{z:Z}{K:KV}{A:Around}{E:Value→Shared→Prop}{x:SV}{v:Value}{y:Y}
theorem asTop_ok{v}(h:asTop x=some v):x= .top v:=by
 induction x using SV.casesOn with
 |top=>cases h;rfl
 |_=>exact(zu rfl h).elim
theorem tops_are{xs:List SV}{vs:List Value}(q:VRels y xs vs):∀{l},zJ asTop xs=some l→vs=l:=by
 induction q with
 |nil=>exact fun h=>by cases h;rfl
 | @cons _ v _ _ a _ ih=>
  intro l h
  obtain⟨p,e,h⟩:=zz h
  obtain⟨l,e2,h⟩:=zz h
  cases h
  rw [ih e2,show v=p from(asTop_ok e▸a).inv]
theorem own_kit{K:Frag}{x D:Addr}{ox od:Obj}(h:ownOk K D=true):KitX K (.ref x) (.ref D) (fun h=>W.InstAt h x ox D (some od)):=by
 obtain⟨h,h6⟩:=zx h
 obtain⟨h,h5⟩:=zx h
 obtain⟨h,h4⟩:=zx h
 obtain⟨h,h3⟩:=zx h
 obtain⟨h1,h2⟩:=zx h
 exact kitx_own h1 h2 (beq_iff_eq.mp h3) (beq_iff_eq.mp h4) (beq_iff_eq.mp h5) (beq_iff_eq.mp h6)
inductive KitI(w:World)(z:Z)(t:Value)(v:Value):Prop
 |mk {H:Heap→Prop}:v≠ .builtin "__main__.__loader__#opaque"→KitX (KH w.params) v t H→H z.s.heap→KitI w z t v
theorem kit_of(r:Rep z)(q:VRel z.y x v){t}(e:typeSV x=some t)(ho:clsOk (KH w.params) t=true):KitI w z t v:=by
 have q:=q.inv
 have go:∀{t'},some t'=some t→(clsOk (KH w.params) t'=true→KitI w z t' v)→KitI w z t v:=fun e h=>by cases e;exact h ho
 induction x using SV.casesOn with
 |num=>obtain⟨_,rfl⟩:=q;exact go e fun _=>.mk (fun z=>Value.noConfusion z) kitx_int trivial
 |str=>obtain⟨_,rfl⟩:=q;exact go e fun _=>.mk (fun z=>Value.noConfusion z) kitx_str trivial
 |tf=>cases q;exact go e fun _=>.mk (fun z=>Value.noConfusion z) kitx_bool trivial
 |frac=>rcases q with⟨a,b,c⟩;exact go e fun ho=>.mk (fun z=>Value.noConfusion z) (own_kit ho) (yo (r.sub _ _ a) (r.sub _ _ b))
 |vinst=>rcases q with⟨a,b,c⟩;exact go e fun ho=>.mk (fun z=>Value.noConfusion z) (own_kit ho) (yo (r.sub _ _ a) (r.sub _ _ b))
 |tup=>rcases q with⟨a,b⟩;exact go e fun _=>.mk (fun z=>Value.noConfusion z) kitx_tuple ⟨_,r.sub _ _ a,rfl⟩
 |vlist=>rcases q with⟨_,⟨a,b⟩⟩;exact go e fun _=>.mk (fun z=>Value.noConfusion z) kitx_list ⟨_,r.sub _ _ a,rfl⟩
 |vset=>rcases q with⟨a,_,_,_,_,rfl⟩;exact go e fun _=>.mk (fun z=>Value.noConfusion z) kitx_set ⟨_,r.sub _ _ a,rfl⟩
 |_=>exact(zu rfl e).elim
theorem isinB_ok:BTOk w d (.builtin "isinstance") (b2 (isinB w)):=b2_ok fun x c t K z v u e k q q2 A E _ ok=>by
 obtain⟨t,e1,e⟩:=zz e
 obtain⟨ho,e⟩:=zv e
 obtain⟨b,e2,e⟩:=zz e
 cases e
 have X:(KH w.params).In z.s.heap:=fun a o e=>ok.rep.sub a o (ok.base a o e)
 rcases kit_of ok.rep q e1 ho with⟨hx,p,H⟩
 generalize hc:asTop c=o at e2
 rcases o with _|u'
 ·obtain⟨cs,e3,e2⟩:=zz e2
  obtain⟨vs,e4,e2⟩:=zz e2
  rcases(xQ e3▸q2).inv with⟨g,q3⟩
  exact kia_tup p X H (by rw [ok.rep.sub _ _ g,←tops_are q3 e4];rfl) e2 hx fun tk=>ok.rep.endT .tf k
 ·obtain rfl:u=u':=(asTop_ok hc▸q2).inv
  exact kia_one p X H e2 hx fun tk=>ok.rep.endT .tf k
end
set_option tactic.hygienic true
section
variable {w:World}{d:Nat}{z:Z}{K:KV}{A:Around}{E:Value→Shared→Prop}{x:SV}{v:Value}{y:Y}
theorem tgo_ok{it:Addr}{T:String}{o:Obj}(hT:o.cls= .type T)(hn:["enumerate","zip","dict_itemiterator","dict_reverseitemiterator","odict_iterator","itertools.zip_longest","itertools.pairwise"].contains T=false){s:Shared}(ho:s.heap.get? it=some o){Q:Unit→Shared→Prop}(q:Q () s)(t:Expr)(v:Value):
  wpAny (model pw w) A (letOwnedTupleGo t (.ref it) v) Q E s:=by
 obtain⟨c,di,da,sl⟩:=o
 obtain rfl:c= .type T:=hT
 induction v using Value.casesOn with
 |ref a=>
  have fin:wpAny (model pw w) A (letOwnedTupleGo (.List [] default) (.ref it) (.ref a)) Q E s:=by
   refine wpAny_bind (wpAny_load ho ?_)
   induction da using Data.casesOn with
   |fields vs=>
    dsimp only
    rw [hn]
    exact wpAny_pure q
   |_=>exact wpAny_pure q
  induction t using Expr.casesOn with
  |Tuple=>exact fin
  |List=>exact fin
  |_=>exact wpAny_pure q
 |_=>induction t using Expr.casesOn<;>exact wpAny_pure q
structure One(w:World)(d:Nat)(x:SV)(T:String)(y0:Y)(a:Addr)(Ob:Nat→Obj→Prop):Prop where
 cls:∀k o,Ob k o→o.cls= .type T
 plain:["enumerate","zip","dict_itemiterator","dict_reverseitemiterator","odict_iterator","itertools.zip_longest","itertools.pairwise"].contains T=false
 self:∀k o s A E (Q:Value→Shared→Prop),s.heap.get? a=some o→Ob k o→Q (.ref a) s→wpAny (model pw w) A (pyIter (.ref a)) Q E s
 turn:∀k o y z A E (Q:Option Value→Shared→Prop),AOk d A→z.At a o→Ob k o→Ok w z→(∀b o,y0.G b=some o→z.G b=some o)∧(x.pure=true∨Le y0 z.y)→zO x k z.st=some y→
  (∀r s o',(∀b o,b≠a→z.At b o→s.heap.get? b=some o)→s.os=z.s.os→s.gens=z.s.gens→(match y with
   |none=>r=none
   |some v=>∃u,r=some u∧s.heap.get? a=some o'∧Ob (k+1) o'∧VRel z.y v u)→Q r s)→wpAny (model pw w) A (pyNext (.ref a)) Q E z.s
inductive OnePost(w:World)(d:Nat)(K:KV)(z:Z):Value→Shared→Prop
 |mk {o0 x T Ob}:o0.isFreed=false→Ob 0 o0→One w d x T z.y z.new Ob→K x z.st→OnePost w d K z (.ref z.new) {z.s with heap:=z.s.heap.push o0}
theorem OnePost.iter{v s}(r:Rep z)(p:OnePost w d K z v s):IterPost w d K z v s:=by
 obtain @⟨o0,x,T,Ob,hf,h0,I,k⟩:=p
 have S:Step z (z.hp (z.s.heap.push o0)):=r.grow (s:={z.s with heap:=z.s.heap.push o0}) (fun _ _ e=>Heap.get?_push_of_some _ e) .heap
 refine .mk (z':=z.hp (z.s.heap.push o0)) (.mk (D:=[z.new]) (g0:=z.s.gens.size) (y0:=z.y) (I:=fun k D s=>D=[z.new]∧∃o,s.heap.get? z.new=some o∧Ob k o) S ⟨?_,?_,?_,?_,?_⟩ (Nat.le_refl _) (fun b h=>List.mem_singleton.mp h▸⟨zh _,r.free.gn,r.free.out⟩) (.refl _) ⟨rfl,o0,Heap.get?_push_size _ hf,h0⟩) k
 ·rintro k D s s' ⟨rfl,o,h,hb⟩ hk _ _ _
  exact⟨rfl,o,hk _ _ (List.mem_singleton_self _) h,hb⟩
 ·rintro k D y z1 A E Q ha ⟨rfl,o,h,hb⟩ ok hy hD hi hQ
  refine I.turn k o y z1 A E Q ha h hb ok ⟨hy.ext,.inr hy⟩ hi fun r s o' hk ho hg hr=>hQ r z1.G s ⟨fun b o n _ e=>hk b o (fun q=>n (q▸List.mem_singleton_self _)) e,fun b m=>let⟨o,w⟩:=ok.rep.tab b m;⟨o,hk b o (fun q=>(hD b (q▸List.mem_singleton_self _)).2.2 m) w.at',w.tab⟩,fun _ _ e=>e,fun b o e=>hk b o (fun q=>zu (hD b (q▸List.mem_singleton_self _)).1 e) (ok.rep.sub b o e),fun _ _ e=>.inl e,ho,fun _ _ _ e=>hg▸e,fun e=>hg▸e⟩ ?_
  rcases y with _|v
  ·exact hr▸ .none
  ·obtain⟨u,rfl,e,hb,hv⟩:=hr
   exact .some (D':=[z.new]) ⟨rfl,o',e,hb⟩ (fun b h=>⟨.inl h,(hD b h).1⟩) hv
 ·rintro k D s ⟨rfl,o,h,hb⟩ b hm
  exact⟨o,List.mem_singleton.mp hm▸h⟩
 ·rintro k D s A E Q ⟨_,o,h,hb⟩ hQ
  exact I.self k o s A E Q h hb hQ
 ·rintro k D s A E Q t v ⟨_,o,h,hb⟩ hQ
  exact tgo_ok (I.cls k o hb) I.plain h hQ t v
noncomputable def iterL:SV→St→Tr:=fun x st=>(zZ st x).bind fun _=>some fun K=>K x st
noncomputable def iterT:SV→St→Tr:=fun x st=>(asT x).bind fun _=>some fun K=>K x st
noncomputable def asRng(x:SV):Option (Int×Int):=match x with
 | .rng a b=>some (a,b)
 |_=>none
noncomputable def iterR:SV→St→Tr:=fun x st=>(asRng x).bind fun p=>zj (Builtin.Range.small p.1 p.2 1) (some fun K=>K x st)
noncomputable def OneOk(w:World)(d:Nat)(f:SV→St→Tr):Prop:=∀x t K z v A E,f x z.st=some t→t K→VRel z.y x v→AOk d A→Ok w z→wpAny (model pw w) A (pyIter v) (OnePost w d K z) E z.s
noncomputable def IterOk(w:World)(d:Nat)(f:SV→St→Tr):Prop:=∀x t K z v A E,f x z.st=some t→t K→VRel z.y x v→AOk d A→Ok w z→wpAny (model pw w) A (pyIter v) (IterPost w d K z) E z.s
theorem OneOk.iter{f}(h:OneOk w d f):IterOk w d f:=fun x t K z v A E e k q ha ok=>wm (h x t K z v A E e k q ha ok) fun _ _ p=>p.iter ok.rep
theorem VRels.out{xs:List SV}{vs:List Value}(q:VRels y xs vs):∀{j:Nat},xs[j]? =none→vs[j]? =none:=by
 intro j h
 rw [List.getElem?_eq_none_iff]at h⊢
 exact q.length▸h
theorem seq_turn{xs:List SV}{vs:Array Value}{k:Nat}{o:Option SV}(q:VRels y xs vs.toList)(h:xs[k]? =o):match o with
  |none=>vs[k]? =none
  |some v=>∃u,vs[k]? =some u∧VRel y v u:=by
 rw [←Array.getElem?_toList]
 rcases o with _|v
 ·exact q.out h
 ·exact q.at h
noncomputable def LiOb(y:Y)(x:SV)(k:Nat)(o:Obj):Prop:=∃l,VRel y x (.ref l)∧o.cls= .type "list_iterator"∧o.data= .fields #[.ref l,.int k 0]
theorem one_list{st:St}{xs:List SV}{a:Addr}(e1:zZ st x=some xs):One w d x "list_iterator" y a (LiOb y x):=by
 have isl:∀{st k y},zO x k st=some y→(zZ st x).map (·[k]?)=some y:=fun{st k y} h=>by
  induction x using SV.casesOn with
  |vlist=>exact h
  |ref=>exact h
  |_=>exact(zu rfl e1).elim
 refine⟨fun k o ⟨_,_,h,_⟩=>h,by decide,fun k o s A E Q h ⟨_,_,hb⟩ hQ=>wpAny_pyIter_listiter ⟨o,h,hb⟩ hQ,fun k o y z1 A E Q ha h ⟨_,q,hb⟩ ok1 le hi hQ=> ?_⟩
 obtain⟨ys,e2,e3⟩:=Option.map_eq_some_iff.mp (isl hi)
 rcases zY e2 ok1.rep (q.mv le.1 le.2)with⟨o1,q2⟩
 have hs:=seq_turn q2 e3
 rcases y with _|v
 ·exact wpAny_pyNext_list_end ha.1 ⟨o,h,hb⟩ (zU o1) hs fun h' hk=>hQ none {z1.s with heap:=h'} o (fun b o n e=>hk b o n e) rfl rfl rfl
 ·obtain⟨u,h1,h2⟩:=hs
  exact wpAny_pyNext_list_item ⟨o,h,hb⟩ (zU o1) h1 fun h' ⟨o',hi',hb'⟩ hk=>hQ _ {z1.s with heap:=h'} o' (fun b o n e=>(hk.2 b n).trans e) rfl rfl ⟨u,rfl,hi',⟨_,q,hb'⟩,h2⟩
theorem xG:OneOk w d iterL:=fun x t K z v A E e k q ha ok=>by
 obtain⟨xs,e1,e⟩:=zz e
 cases e
 obtain⟨o,_⟩:=zY e1 ok.rep q
 exact wpAny_pyIter_list (zU o) (.mk rfl ⟨_,q,rfl,rfl⟩ (one_list e1) k)
theorem iterT_ok:OneOk w d iterT:=fun x t K z v A E e k q ha ok=>by
 obtain⟨xs,e1,e⟩:=zz e
 cases e
 obtain rfl:=xQ e1
 rcases q.inv with⟨g,q1⟩
 rename_i l vs kk
 have tp:∀{h:Heap},h.get? l=some (tupO vs kk)→h.IsTuple l vs:=fun e=>⟨_,e,rfl,kk,rfl⟩
 refine wpAny_pyIter_tuple (tp (ok.rep.sub _ _ g)) (.mk (T:="tuple_iterator") (Ob:=fun k o=>o.cls= .type "tuple_iterator"∧o.data= .fields #[.ref l,.int k 0]) rfl ⟨rfl,rfl⟩ ⟨fun k o h=>h.1,by decide,fun k o s A E Q h hb hQ=>wpAny_pyIter_tupleiter ⟨o,h,hb⟩ hQ,fun k o y z1 A E Q ha h hb ok1 le hi hQ=> ?_⟩ k)
 have g1:=tp (ok1.rep.sub _ _ (le.1 _ _ g))
 have hs:=seq_turn (VRels.mv le.1 q1 le.2) (Option.some.inj hi)
 rcases y with _|v
 ·exact wpAny_pyNext_tuple_end ha.1 ⟨o,h,hb⟩ g1 hs fun h' hk=>hQ none {z1.s with heap:=h'} o (fun b o n e=>hk b o n e) rfl rfl rfl
 ·obtain⟨u,h1,h2⟩:=hs
  exact wpAny_pyNext_tuple_item ⟨o,h,hb⟩ g1 h1 fun h' ⟨o',hi',hb'⟩ hk=>hQ _ {z1.s with heap:=h'} o' (fun b o n e=>(hk.2 b n).trans e) rfl rfl ⟨u,rfl,hi',hb',h2⟩
theorem asRng_ok{p}(h:asRng x=some p):x= .rng p.1 p.2:=by
 induction x using SV.casesOn with
 |rng=>cases h;rfl
 |_=>exact(zu rfl h).elim
theorem rng_left(a b:Int)(k:Nat):0<Builtin.Range.rangeSize a b 1-(k:Int)↔a+(k:Int)<b:=by
 unfold Builtin.Range.rangeSize
 rw [if_pos (by decide)]
 by_cases hab:a<b
 ·rw [if_pos hab,Int.ediv_one];omega
 ·rw [if_neg hab];omega
theorem iterR_ok:OneOk w d iterR:=fun x t K z v A E e k q ha ok=>by
 obtain⟨⟨a,b⟩,e1,e⟩:=zz e
 obtain⟨hs,e⟩:=zv e
 cases e
 obtain rfl:=asRng_ok e1
 rcases q.inv with⟨g⟩
 have ob:∀k:Nat,wY "range_iterator" #[rawInt (a+(k:Int)+1),rawInt (Builtin.Range.rangeSize a b 1-(k:Int) -1),rawInt 1]=wY "range_iterator" #[rawInt (a+((k+1:Nat):Int)),rawInt (Builtin.Range.rangeSize a b 1-((k+1:Nat):Int)),rawInt 1]:=fun k=>by
  rw [Int.natCast_add,Int.add_assoc,Int.sub_sub];rfl
 refine wpAny_pyIter_range (ok.rep.sub _ _ g) hs (.mk (T:="range_iterator") (Ob:=fun k o=>o=wY "range_iterator" #[rawInt (a+(k:Int)),rawInt (Builtin.Range.rangeSize a b 1-(k:Int)),rawInt 1]) rfl (by
  show wY _ #[rawInt a,rawInt _,_]=wY _ #[rawInt (a+0),rawInt (_-0),_]
  rw [Int.add_zero,Int.sub_zero]) ⟨fun k o h=>h▸rfl,by decide,fun k o s A E Q h hb hQ=>wpAny_pyIter_rangeiter (hb▸h) hQ,fun k o y z1 A E Q ha h hb ok1 le hi hQ=> ?_⟩ k)
 subst hb
 by_cases hlt:a+(k:Int)<b
 ·obtain rfl:y=some (.int (a+k)):=by
   have hi:some (match decide (a+(k:Int)<b)with|true=>some (SV.int (a+k))|false=>none)=some y:=hi
   rw [decide_eq_true hlt]at hi;exact(Option.some.inj hi).symm
  exact wpAny_pyNext_range_item h ((rng_left a b k).mpr hlt) fun h' hi' hk=>hQ _ {z1.s with heap:=h',toks:=_} _ (fun b o n e=>(hk.2 b n).trans e) rfl rfl ⟨_,rfl,hi',ob k,.num⟩
 ·obtain rfl:y=none:=by
   have hi:some (match decide (a+(k:Int)<b)with|true=>some (SV.int (a+k))|false=>none)=some y:=hi
   rw [decide_eq_false hlt]at hi;exact(Option.some.inj hi).symm
  exact wpAny_pyNext_range_end ha.1 h (Int.not_lt.mp fun z=>hlt ((rng_left a b k).mp z)) fun h' hk=>hQ none {z1.s with heap:=h'} (wY "" #[]) (fun b o n e=>hk b o n e) rfl rfl rfl
end
set_option tactic.hygienic false
noncomputable def frL(f:St→SV→Option (SV×St)):List SV→St→Option (List SV×St)
 | [],st=>some ([],st)
 |y::r,st=>(f st y).bind fun p=>(frL f r p.2).bind fun q=>some (p.1::q.1,q.2)
noncomputable def zipN:List (Str×SV)→List SV→List (Str×SV)
 |p::r,x::xs=>(p.1,x)::zipN r xs
 |_,_=> []
noncomputable def y5:Nat→St→SV→Option (SV×St)
 |0=>fun _ _=>none
 |n+1=>fun st x=>match x with
  | .ref i=>(zA st i).bind fun xs=>(frL (y5 n) xs st).bind fun p=>(zA p.2 i).bind fun _=>some (.vlist p.1,p.2.drop i)
  | .tup xs=>(frL (y5 n) xs st).bind fun p=>some (.tup p.1,p.2)
  | .obj C i=>(asInst st i).bind fun fs=>(frL (y5 n) (fs.map (·.2)) st).bind fun p=>(asInst p.2 i).bind fun _=>some (.vinst C (zipN fs p.1),p.2.drop i)
  |x=>zj x.pure (some (x,st))
section
variable {w:World}{d:Nat}{z:Z}{P:Prims}{A:Around}{E:Value→Shared→Prop}{x:SV}{v:Value}
theorem pureL_append{xs ys:List SV}(h:zt xs=true)(h2:zt ys=true):zt (xs++ys)=true:=by
 induction xs with
 |nil=>exact h2
 |cons x r ih=>exact(Bool.and_eq_true _ _).mpr ⟨(zx h).1,ih (zx h).2⟩
inductive FrzI(z:Z)(R:Y→Prop)(b:Bool)(st:St):Prop
 |mk {G}:Step z ⟨G,z.ρ,st,z.s⟩→R ⟨G,z.ρ,st.nx⟩→b=true→FrzI z R b st
theorem frL_ok{n:Nat}(H:∀{x p z v},y5 n z.st x=some p→Rep z→VRel z.y x v→FrzI z (fun y=>VRel y p.1 v) p.1.pure p.2)(xs:List SV):∀{p z vs},frL (y5 n) xs z.st=some p→Rep z→VRels z.y xs vs→FrzI z (fun y=>VRels y p.1 vs) (zt p.1) p.2:=by
 induction xs with
 |nil=>exact fun h r q=>by cases q;cases h;exact .mk (.refl r) .nil rfl
 |cons x xs ih=>
  intro p z vs h r q
  obtain⟨a,e1,h⟩:=zz h
  obtain⟨b,e2,h⟩:=zz h
  cases h
  cases q with
  |cons q1 q2=>
   rcases H e1 r q1 with⟨S1,v1,p1⟩
   rcases ih (z:=⟨_,z.ρ,a.2,z.s⟩) e2 S1.rep (S1.vals q2)with⟨S2,v2,p2⟩
   exact .mk (S1.trans S2) (.cons (S2.val v1) v2) ((Bool.and_eq_true _ _).mpr ⟨p1,p2⟩)
theorem FRels.vals{y:Y}{fs l}(q:FRels y fs l):VRels y (fs.map (·.2)) (l.map (·.2)):=by
 induction q with
 |nil=>exact .nil
 |cons a _ ih=>exact .cons a ih
theorem FRels.zip{y y':Y}{fs l}(q:FRels y fs l):∀{ys},VRels y' ys (l.map (·.2))→FRels y' (zipN fs ys) l:=by
 induction q with
 |nil=>exact fun _=>.nil
 |cons _ _ ih=>exact fun p=>by cases p with|cons a b=>exact .cons a (ih b)
theorem pureF_zip{ys:List SV}(h:zt ys=true):∀fs,pureF (zipN fs ys)=true:=by
 induction ys with
 |nil=>exact fun fs=>by cases fs<;>rfl
 |cons y r ih=>
  intro fs
  cases fs with
  |nil=>rfl
  |cons p fs=>exact(Bool.and_eq_true _ _).mpr ⟨(zx h).1,ih (zx h).2 fs⟩
theorem Rep.inst_of(r:Rep z){i fs}(e:Has z.st i (.inst fs)):∃l od,z.At (z.ρ i) od∧xt od (fun x=>List.lookup x l)∧FRels z.y fs l:=
 let⟨_,w⟩:=r.own i _ e;let⟨_,_,_,e,a,b⟩:=w.rel;⟨_,_,e▸w.hp,a.ns _,b⟩
theorem yg(n:Nat):∀{x p z v},y5 n z.st x=some p→Rep z→VRel z.y x v→FrzI z (fun y=>VRel y p.1 v) p.1.pure p.2:=by
 induction n with
 |zero=>exact fun h=>(zu rfl h).elim
 |succ n ih=>
  intro x p z v h r q
  have plain:∀{x},VRel z.y x v→zj x.pure (some (x,z.st))=some p→FrzI z (fun y=>VRel y p.1 v) p.1.pure p.2:=fun q h=>by
   obtain⟨h1,h⟩:=zv h
   cases h;exact .mk (.refl r) q h1
  induction x using SV.casesOn with
  |ref i=>
   obtain⟨xs,e1,h⟩:=zz h
   obtain⟨a,e2,h⟩:=zz h
   obtain⟨_,e3,h⟩:=zz h
   cases h
   obtain⟨_,e⟩:=q.inv
   obtain⟨vs,k,h1,h2⟩:=r.list_of (zB e1)
   rcases frL_ok ih xs e2 r h2 with⟨S1,v1,p1⟩
   have F:=S1.rep.freeze (z:=⟨_,z.ρ,a.2,z.s⟩) (zB e3) h1
   exact .mk (S1.trans F) (e▸ .vlist p1 (vs:=vs) (k:=k) (if_pos rfl) (F.vals v1)) rfl
  |obj C i=>
   obtain⟨fs,e1,h⟩:=zz h
   obtain⟨a,e2,h⟩:=zz h
   obtain⟨_,e3,h⟩:=zz h
   cases h
   rcases q.inv with⟨_,g⟩
   obtain⟨l,od,h1,h2,h3⟩:=r.inst_of (xb e1)
   rcases frL_ok ih _ e2 r h3.vals with⟨S1,v1,p1⟩
   have F:=S1.rep.freeze (z:=⟨_,z.ρ,a.2,z.s⟩) (xb e3) h1
   exact .mk (S1.trans F) (.vinst ((S1.trans F).le.ext _ _ g) (if_pos rfl) h2 (FRels.mono F.le (h3.zip v1))) (pureF_zip p1 fs)
  |tup xs=>
   obtain⟨a,e2,h⟩:=zz h
   cases h
   rcases q.inv with⟨g1,g2⟩
   rcases frL_ok ih xs e2 r g2 with⟨S1,v1,p1⟩
   exact .mk S1 (.tup (S1.le.ext _ _ g1) v1) p1
  |_=>exact plain q h
theorem Ok.kin(ok:Ok w z):(KH w.params).In z.s.heap:=fun a o e=>ok.rep.sub a o (ok.base a o e)
theorem AOk.deeper{env:Env}(h:AOk (d+1) A):AOk d (A.deeper env):=h.of (x:=1) (y:=3) rfl rfl rfl (by decide) (by decide)
theorem AOk.room(h:AOk d A):A.depth<recursionLimit:=Nat.lt_of_le_of_lt (Nat.le_add_right _ _) h.2.1
noncomputable def esStat(P:Params):Array DictEntry:=[kE P "type.__subclasses__.Exception.0" 867 (.int 501 0),kE P "type.__subclasses__.Exception.n" 868 (.int 1 0)].toArray
theorem xU{P:Params}{h:Heap}(X:(KH P).In h):h.NoLimit:=by
 have e:(KH P).lookup 2=some ⟨.none,none,.dict (esStat P) 2,[].toArray⟩:=by rfl
 have hk:∀x∈(esStat P).toList,∃n t,x.key= .str n t:=List.forall_mem_cons.mpr ⟨⟨_,_,rfl⟩,List.forall_mem_cons.mpr ⟨⟨_,_,rfl⟩,fun _ h=>nomatch h⟩⟩
 exact⟨fun x=>nsFind (esStat P) x,⟨_,_,_,X 2 _ e,rfl,fun x hx=>hk x (Array.mem_toList_iff.mpr hx),fun _=>rfl⟩,by rfl⟩
end
noncomputable abbrev Shape:=Nat×Nat×List Str
noncomputable abbrev fS(a n:Nat)(l:List Str):Shape:=(a,n,l)
noncomputable def fnT:List Shape:=[fS 714 0 [],fS 107 2 [],fS 135 2 [],fS 163 2 [],fS 170 2 [],fS 184 2 [],fS 191 2 [],fS 65 3 [],fS 65 2 [],fS 285 1 [],fS 292 1 [],fS 299 1 [],fS 313 1 [],fS 249 2 [],fS 242 2 [],fS 264 2 [],
 fS 271 3 [],fS 327 3 [],fS 635 1 [],fS 564 1 [],fS 579 1 [],fS 50 2 [],fS 205 1 [],fS 30 1 [],fS 30 1 ["num_cand"],fS 45 1 [],fS 37 1 [],fS 344 2 [],fS 351 1 [],
 fS 359 1 ["profile","committeesize","algorithm","resolute","max_num_of_committees"],fS 441 0 ["scorefct_id","profile","committeesize","algorithm","resolute","max_num_of_committees","lexicographic_tiebreaking"],
 fS 449 0 ["scorefct_id","profile","committeesize","resolute","max_num_of_committees"],fS 457 0 ["scorefct_id","profile","committeesize","resolute","max_num_of_committees"],
 fS 465 2 ["algorithm"],fS 473 2 ["algorithm"],fS 478 4 [],fS 486 2 [],fS 491 3 [],fS 512 3 [],fS 512 5 [],fS 519 2 [],fS 531 4 [],fS 557 2 [],fS 586 2 [],fS 593 2 [],fS 685 2 ["weight"],fS 685 2 ["weight","num_cand"],fS 725 3 [],fS 730 1 []]
noncomputable def fdO(o:Obj):Option FuncData:=match o.data with
 | .func fd=>some fd
 |_=>none
noncomputable def fdOf(P:Params)(a:Nat):Option FuncData:=((KH P).lookup a).bind fdO
noncomputable def bodyO(b:FuncBody):Option (List Stmt):=match b with
 | .stmts b=>some b
 |_=>none
noncomputable def okF(P:Params)(fd:FuncData):Bool:=codeIn (KH P) fd.code fd.qualname&&(fd.scope.kind== .function) &&(!fd.scope.isCoroutine) &&fd.closure.isEmpty&&Nat.beq fd.globals 3&&Nat.beq fd.builtins 0
inductive Src where
 |arg (i:Nat)
 |kw (i:Nat)
 |con (v:Value)
noncomputable def Src.val(f g:Nat→Value)(s:Src):Value:=match s with
 | .arg i=>f i
 | .kw i=>g i
 | .con v=>v
noncomputable def cSV(v:Value):SV:=match v with
 | .none=>.non
 | .bool b=>.bool b
 | .int i _=>.sint i
 | .str s _=>.str s
 |v=>.top v
noncomputable def Src.sv(xs:List SV)(ks:List (Str×SV))(s:Src):Option SV:=match s with
 | .arg i=>xs[i]?
 | .kw i=>ks[i]?.map (·.2)
 | .con v=>some (cSV v)
noncomputable def tk(f:Nat→Value):Nat→Nat→List Value
 |0,_=> []
 |n+1,i=>f i::tk f n (i+1)
noncomputable def tkw(g:Nat→Value):List Str→Nat→List (Str×Value)
 | [],_=> []
 |x::r,i=>(x,g i)::tkw g r (i+1)
noncomputable def bindS(P:Params)(f g:Nat→Value)(e:Shape):Option (List (Str×Value)):=(fdOf P e.1).bind fun fd=>peek (KH P) ⟨pw,P⟩ (bindArgs fd ⟨tk f e.2.1 0,tkw g e.2.2 0⟩)
noncomputable def mark(v:Value):Src:=match v with
 | .ref a=>(match Nat.ble 1000000 a with
  |true=>(match Nat.ble 2000000 a with
   |true=>.kw (a-2000000)
   |false=>.arg (a-1000000))
  |false=>.con v)
 |v=>.con v
noncomputable def srcs(P:Params)(e:Shape):Option (List (Str×Src)):=(bindS P (fun i=>.ref (1000000+i)) (fun i=>.ref (2000000+i)) e).map (·.map fun p=>(p.1,mark p.2))
noncomputable def clT:List (Nat×Nat):=[(194,65),(252,242),(362,344),(666,557),(703,685)]
theorem cl_fine(P:Params):clT.map (fun c=>(makesIn (KH P) c.1,findIn (KH P) (.ref c.1) "__init__",typeIn (KH P) (.ref c.2)))=clT.map fun c=>(true,some (some (.ref c.2)),some (.type "function")):=by kernel_rfl
theorem fn_bind(P:Params)(f g:Nat→Value):fnT.map (bindS P f g)=fnT.map fun e=>(srcs P e).map (·.map fun p=>(p.1,p.2.val f g)):=by kernel_rfl
theorem fn_fine(P:Params):(fnT.all fun e=>((fdOf P e.1).map (okF P)).getD false)=true:=by kernel_rfl
noncomputable def bsOf(xs:List SV)(ks:List (Str×SV)):List (Str×Src)→Option (List (Str×SV))
 | []=>some []
 |p::r=>(p.2.sv xs ks).bind fun v=>(bsOf xs ks r).bind fun l=>some ((p.1,v)::l)
noncomputable def retK(K:KV):KF:=fun f st=>match f with
 | .ret v=>K v st
 | .next=>K .non st
 |_=>False
noncomputable def fnZ(w:World)(a:Nat)(xs:List SV)(ks:List (Str×SV))(st:St)(Z:FrS→List Stmt→St→Prop):Prop:=
 zI (fnT.elem (a,xs.length,ks.map (·.1))) (zg (fdOf w.params a) fun fd=>zg (bodyO fd.body) fun b=>zI (!fd.scope.isGenerator) (zg (srcs w.params (a,xs.length,ks.map (·.1))) fun l=>zg (bsOf xs ks l) fun bs=>
  newF fd.code fd.scope [] "frame" bs st fun fr st1=>Z fr b st1))
noncomputable def fnB(w:World)(P:Prims)(n:Nat)(a:Nat)(xs:List SV)(ks:List (Str×SV))(st:St)(K:KV):Prop:=fnZ w a xs ks st fun fr b st1=>vc w P n (.Ss b fr st1 (retK K))
noncomputable def initK(fz:Bool)(C:Addr)(K:KV)(i:Nat):KV:=fun v st=>match v with
 | .non=>(match fz with
  |true=>zg (y5 6 st (.obj C i)) fun p=>K p.1 p.2
  |false=>K (.obj C i) st)
 |_=>False
noncomputable def initOf(C:Nat):List (Nat×Nat)→Option Nat
 | []=>none
 |p::r=>match Nat.beq C p.1 with
  |true=>some p.2
  |false=>initOf C r
section
variable {w:World}{d n:Nat}{z:Z}{P:Prims}{A:Around}{E:Value→Shared→Prop}{x:SV}{v:Value}{xs:List SV}{vs:List Value}{ks:List (Str×SV)}{kvs:List (Str×Value)}{K:KV}{a C:Nat}
theorem cSV_ok(y:Y)(v:Value):VRel y (cSV v) v:=by
 induction v using Value.casesOn with
 |none=>exact .non
 |bool b=>exact .tf
 |int i t=>exact .num
 |str s t=>exact .str
 |_=>exact .top
theorem tk_of{f:Nat→Value}:∀{vs:List Value} {i},(∀j,f (i+j)=vs.getD j .none)→tk f vs.length i=vs
 | [],_,_=>rfl
 |v::vs,i,h=>List.cons_eq_cons.mpr ⟨h 0,tk_of fun j=>(congrArg f (Nat.succ_add_eq_add_succ i j)).trans (h (j+1))⟩
theorem tkw_of{g:Nat→Value}:∀{l:List (Str×Value)} {i},(∀j,g (i+j)=(l.getD j e0).2)→tkw g (l.map (·.1)) i=l
 | [],_,_=>rfl
 |p::l,i,h=>List.cons_eq_cons.mpr ⟨congrArg (p.1,·) (h 0),tkw_of fun j=>(congrArg g (Nat.succ_add_eq_add_succ i j)).trans (h (j+1))⟩
theorem FRels.keys{y:Y}{fs l}(q:FRels y fs l):fs.map (·.1)=l.map (·.1):=by
 induction q with
 |nil=>rfl
 |cons _ _ ih=>exact congrArg (_:: ·) ih
theorem sv_ok{y:Y}(q:VRels y xs vs)(qk:FRels y ks kvs){s:Src}(h:s.sv xs ks=some x):VRel y x (s.val (fun i=>vs.getD i .none) fun i=>(kvs.getD i e0).2):=by
 induction s using Src.casesOn with
 |arg i=>exact q.get i x h
 |kw i=>
  obtain⟨p,e,h⟩:=Option.map_eq_some_iff.mp h
  exact h▸(qk.get i p e).2
 |con v=>cases h;exact cSV_ok y v
theorem bs_ok{y:Y}(q:VRels y xs vs)(qk:FRels y ks kvs):∀{l bs},bsOf xs ks l=some bs→FRels y bs (l.map fun p=>(p.1,p.2.val (fun i=>vs.getD i .none) fun i=>(kvs.getD i e0).2))
 | [],_,h=>by cases h;exact .nil
 |p::l,_,h=>by
  obtain⟨v,e,h⟩:=zz h
  obtain⟨b,e2,h⟩:=zz h
  cases h
  exact .cons (sv_ok q qk e) (bs_ok q qk e2)
theorem fdOf_ok{P:Params}{fd}(h:fdOf P a=some fd){H:Heap}(X:(KH P).In H):∃o,H.get? a=some o∧o.data= .func fd:=by
 obtain⟨o,e,h⟩:=zz h
 refine⟨o,X _ _ e,?_⟩
 obtain⟨_,_,dt,_⟩:=o
 induction dt using Data.casesOn with
 |func=>cases h;rfl
 |_=>exact(zu rfl h).elim
theorem bodyO_ok{b:FuncBody}{l}(h:bodyO b=some l):b= .stmts l:=by
 induction b using FuncBody.casesOn with
 |stmts=>cases h;rfl
 |_=>exact(zu rfl h).elim
structure FnO(w:World)(z:Z)(a:Nat)(fd:FuncData)(vs:List Value)(kvs:List (Str×Value))(l:List (Str×Src)):Prop where
 ob:∃o,z.s.heap.get? a=some o∧o.data= .func fd
 co:fd.scope.isCoroutine=false
 cd:z.s.heap.CodeRec fd.code fd.qualname
 kind:fd.scope.kind= .function
 gl:fd.globals=3
 bu:fd.builtins=0
 cl:fd.closure=[]
 bind:Looks (model pw w) z.s.heap (bindArgs fd ⟨vs,kvs⟩) (l.map fun p=>(p.1,p.2.val (fun i=>vs.getD i .none) fun i=>(kvs.getD i e0).2))
theorem fn_open{fd l}(h1:fnT.elem (a,xs.length,ks.map (·.1))=true)(e1:fdOf w.params a=some fd)(e3:srcs w.params (a,xs.length,ks.map (·.1))=some l)(ok:Ok w z)(q:VRels z.y xs vs)(qk:FRels z.y ks kvs):FnO w z a fd vs kvs l:=by
 have hm:=List.elem_iff.mp h1
 have hb:=List.map_inj_left.mp (fn_bind w.params (fun i=>vs.getD i .none) fun i=>(kvs.getD i e0).2) _ hm
 have hf:=List.all_eq_true.mp (fn_fine w.params) _ hm
 rw [e3]at hb
 unfold bindS at hb
 dsimp only at hb hf
 rw [e1,q.length,qk.keys,tk_of (i:=0) fun j=>by rw [Nat.zero_add],tkw_of (i:=0) fun j=>by rw [Nat.zero_add]]at hb
 rw [e1]at hf
 obtain⟨hf,f6⟩:=zx hf
 obtain⟨hf,f5⟩:=zx hf
 obtain⟨hf,f4⟩:=zx hf
 obtain⟨hf,f3⟩:=zx hf
 exact⟨fdOf_ok e1 ok.kin,Bool.not_eq_true' _▸f3,codeRec_of ok.kin (zx hf).1,beq_iff_eq.mp (zx hf).2,Nat.eq_of_beq_eq_true f5,Nat.eq_of_beq_eq_true f6,List.isEmpty_iff.mp f4,Looks.of_peek ok.kin hb⟩
theorem fn_open2{Z:FrS→List Stmt→St→Prop}{R:Result→Shared→Prop}(h:fnZ w a xs ks z.st Z)(ok:Ok w z)(q:VRels z.y xs vs)(qk:FRels z.y ks kvs)(hr:A.depth<recursionLimit)
  (body:∀env fr b z1,Step z z1→EnvOk z1.y fr env→env.frame=some env.locals→z.s.heap.get? env.locals=none→Z fr b z1.st→wpAny (model pw w) (A.deeper env) (execs b env) (fun f s'=>R (.ok (.ret (match f with| .ret v=>v|_=>.none))) s') (fun e s'=>wpAny (model pw w) (A.deeper env) (leaving env e) (fun _ s''=>R (.error e) s'') (fun e' s''=>R (.error e') s'') s') z1.s):codeAny (model pw w) A (.call (.ref a) ⟨vs,kvs⟩) R z.s:=by
 obtain⟨h1,h⟩:=zm h
 obtain⟨fd,e1,h⟩:=zr h
 obtain⟨b,e2,h⟩:=zr h
 obtain⟨h2,h⟩:=zm h
 obtain⟨l,e3,h⟩:=zr h
 obtain⟨bs,e4,h⟩:=zr h
 have F:=fn_open h1 e1 e3 ok q qk
 obtain⟨o,e5,e6⟩:=F.ob
 refine codeAny_call_function hr e5 e6 F.co (Bool.not_eq_true' _▸h2) (bodyO_ok e2) F.cd (F.bind.here ?_)
 exact newEnv_ok (cl:=[]) (around:=none) h F.kind F.gl F.bu ok.rep F.cl (fun _ q=>nomatch q) (bs_ok q qk e4) fun env fr z1 S1 ev ne k1=>⟨xU (S1.ok ok).kin,codeAny_func (wm (body env fr b z1 S1 ev (ne.own rfl) ne.dead k1) fun f s h=>by cases f<;>exact h)⟩
theorem fn_core{K':KV}{R:Result→Shared→Prop}(S0:Sound w P d)(h:fnB w P n a xs ks z.st K')(ok:Ok w z)(q:VRels z.y xs vs)(qk:FRels z.y ks kvs)(hr:A.depth<recursionLimit)(hd:∀env,AOk d (A.deeper env))
  (hR:∀z1 v u,Step z z1→Ok w z1→VRel z1.y v u→K' v z1.st→R (.ok (.ret u)) z1.s):codeAny (model pw w) A (.call (.ref a) ⟨vs,kvs⟩) R z.s:=
 fn_open2 h ok q qk hr fun env fr b z1 S1 ev _ _ k1=>by
  have o1:=S1.ok ok
  refine(ya (t:= .Ss b fr z1.st (retK K')) S0 k1 z1 env rfl ev).go o1 (hd env) fun z2 f u S2 o2 q2 k2=> ?_
  cases q2 with
  |ret q=>exact hR z2 _ _ (S1.trans S2) o2 q k2
  |next=>exact hR z2 _ _ (S1.trans S2) o2 .non k2
  |_=>exact k2.elim
theorem fn_inl(S0:Sound w P d)(h:fnB w P n a xs ks z.st fun v st=>K v (st.drop z.st.nx))(q:VRels z.y xs vs)(qk:FRels z.y ks kvs):W w (d+1) VRel K z (call (.ref a) vs kvs):=fun A E ha ok=>
 wpAny_call (fn_core S0 h ok q qk ha.room (fun _=>ha.deeper) fun z1 _ _ S _ p k=>.mk (z':=z1.to (z1.st.drop z.st.nx)) (S.trans (S.rep.forget z.st.nx)) p k)
theorem initOf_ok:∀{l},initOf C l=some a→(C,a)∈l
 | [],h=>by cases h
 |p::r,h=>by
  unfold initOf at h
  cases e:Nat.beq C p.1 with
  |false=>rw [e]at h;exact .tail _ (initOf_ok h)
  |true=>rw [e]at h;cases h;cases Nat.eq_of_beq_eq_true e;exact .head _
theorem cu(C:Addr)(rest:List Value)(kw:List (Str×Value)):(Code.builtin "type.__call__" ⟨.ref C::rest,kw⟩).cUnits≤8:=by
 have e:(Code.builtin "type.__call__" ⟨.ref C::rest,kw⟩).frames=if(Code.builtin "type.__call__" ⟨.ref C::rest,kw⟩).isFrame then 1 else 0:=rfl
 show 1+3*(Code.builtin "type.__call__" ⟨.ref C::rest,kw⟩).frames≤8
 rw [e]
 split<;>decide
theorem AOk.made{rest:List Value}{kw:List (Str×Value)}(h:AOk (d+1) A):(∀env,AOk d ((A.under (.builtin "type.__call__" ⟨.ref C::rest,kw⟩)).deeper env))∧(A.under (.builtin "type.__call__" ⟨.ref C::rest,kw⟩)).depth<recursionLimit:=by
 have h1:=cu C rest kw
 exact⟨fun env=>h.of (x:=2) (y:=(Code.builtin "type.__call__" ⟨.ref C::rest,kw⟩).cUnits+3) rfl rfl rfl (by decide) (Nat.le_trans (Nat.add_le_add_right h1 3) (by decide)),Nat.lt_of_le_of_lt (Nat.add_le_add_left (show 1≤3*(d+1)from Nat.le_add_left 1 _) _) h.2.1⟩
theorem Rep.made(r:Rep z)(C:Addr):∃z2,Step z z2∧z2.st=z.st.push (.inst [])∧{z.s with heap:=(z.s.heap.push emptyDict).push (instObj C z.s.heap.objs.size)}=z2.s∧VRel z2.y (.obj C z.st.nx) (.ref (z.s.heap.objs.size+1)):=by
 have S1:=r.pushO (o:=emptyDict) (so:= .inst []) rfl ⟨[],[],0,rfl,.nil,.nil⟩
 refine⟨_,S1.trans (S1.rep.pushG (instObj C z.new) rfl),rfl,rfl,?_⟩
 have hsz:(z.s.heap.push emptyDict).objs.size=z.s.heap.objs.size+1:=Heap.size_push ..
 refine .obj (Nat.lt_succ_self _) ?_
 show(if z.s.heap.objs.size+1=(z.s.heap.push emptyDict).objs.size then some (instObj C z.new)else z.G (z.s.heap.objs.size+1))=some (instObj C (xM z.ρ z.st.nx z.new z.st.nx))
 rw [zQ]
 exact if_pos hsz.symm
theorem cl_inl(S0:Sound w P d){fz:Bool}(hi:initOf C clT=some a)(h:fnB w P n a (.obj C z.st.nx::xs) ks (z.st.push (.inst [])) fun v st=>initK fz C K z.st.nx v (st.drop (z.st.nx+1)))(q:VRels z.y xs vs)(qk:FRels z.y ks kvs):W w (d+1) VRel K z (call (.ref C) vs kvs):=fun A E ha ok=>by
 obtain⟨e1,e⟩:=Prod.mk.inj (List.map_inj_left.mp (cl_fine w.params) _ (initOf_ok hi))
 obtain⟨e2,e3⟩:=Prod.mk.inj e
 have X:=ok.kin
 obtain⟨z2,S2,e4,e5,hv⟩:=ok.rep.made C
 have hA:=AOk.made (C:=C) (rest:=vs) (kw:=kvs) ha
 refine wpAny_call (make_core (makes_of X e1) (looks_findIn X e2) (fun self=>bind_fn X self e3) (.inl rfl) ?_)
 refine e5▸fn_core S0 (e4▸h) (S2.ok ok) (.cons hv (S2.vals q)) (S2.fvals qk) hA.2 hA.1 fun z1 v u S o1 p k=> ?_
 have S3:=S.rep.forget (z.st.nx+1)
 have hv:=S3.val (S.val hv)
 have F:=S2.trans (S.trans S3)
 induction v using SV.casesOn with
 |non=>
  refine⟨p.inv,?_⟩
  cases fz with
  |false=>exact .mk (z':=z1.to (z1.st.drop (z.st.nx+1))) F hv k
  |true=>
   obtain⟨q,e,k⟩:=zr k
   rcases yg 6 e F.rep hv with⟨S4,v4,_⟩
   exact .mk (z':=⟨_,z1.ρ,q.2,z1.s⟩) (F.trans S4) v4 k
 |_=>exact k.elim
end
noncomputable def orE{α:Type}(a b:Option α):Option α:=match a with
 |some x=>some x
 |none=>b
theorem yi{α:Type}{a b:Option α}{x:α}(h:orE a b=some x):a=some x∨b=some x:=by
 cases a with
 |none=>exact .inr h
 |some y=>exact .inl h
noncomputable abbrev CallH:=SV→List SV→List (Str×SV)→St→Tr
noncomputable abbrev IterH:=SV→St→Tr
noncomputable def CallOk(w:World)(d:Nat)(h:CallH):Prop:=∀f xs ks t K z fv vs kvs,h f xs ks z.st=some t→t K→VRel z.y f fv→VRels z.y xs vs→FRels z.y ks kvs→W w d VRel K z (call fv vs kvs)
noncomputable def yw(h g:OpH):OpH:=fun o xs st=>orE (h o xs st) (g o xs st)
noncomputable def zp(h g:CallH):CallH:=fun f xs ks st=>orE (h f xs ks st) (g f xs ks st)
noncomputable def xp(h g:IterH):IterH:=fun x st=>orE (h x st) (g x st)
noncomputable def bName(f:SV):Option (Bool×String):=match f with
 | .top v=>(match v with
  | .builtin n=>some (false,n)
  | .type n=>some (true,n)
  |_=>none)
 |_=>none
noncomputable def bVal(p:Bool×String):Value:=match p.1 with
 |true=>.type p.2
 |false=>.builtin p.2
noncomputable def onB(ty:Bool)(n:String)(T:BT):CallH:=fun f xs ks st=>(bName f).bind fun p=>zj (p.1==ty&&p.2==n) (T xs ks st)
noncomputable def asFn(f:SV):Option Nat:=match f with
 | .top v=>(match v with
  | .ref a=>some a
  |_=>none)
 |_=>none
noncomputable def onA(a:Nat)(T:BT):CallH:=fun f xs ks st=>(asFn f).bind fun b=>zj (Nat.beq b a) (T xs ks st)
section
variable {w:World}{d:Nat}
theorem OpOk.or{h g:OpH}(a:OpOk w d h)(b:OpOk w d g):OpOk w d (yw h g):=fun o xs t K z vs e=>(yi e).elim (fun e=>a o xs t K z vs e) fun e=>b o xs t K z vs e
theorem CallOk.or{h g:CallH}(a:CallOk w d h)(b:CallOk w d g):CallOk w d (zp h g):=fun f xs ks t K z fv vs kvs e=>(yi e).elim (fun e=>a f xs ks t K z fv vs kvs e) fun e=>b f xs ks t K z fv vs kvs e
theorem IterOk.or{h g:IterH}(a:IterOk w d h)(b:IterOk w d g):IterOk w d (xp h g):=fun x t K z v A E e=>(yi e).elim (fun e=>a x t K z v A E e) fun e=>b x t K z v A E e
theorem bName_ok{f:SV}{p}(h:bName f=some p):f= .top (bVal p):=by
 induction f using SV.casesOn with
 |top v=>
  induction v using Value.casesOn with
  |builtin n=>cases h;rfl
  |type n=>cases h;rfl
  |_=>exact(zu rfl h).elim
 |_=>exact(zu rfl h).elim
theorem BTOk.on{ty:Bool}{n:String}{T:BT}(h:BTOk w d (bVal (ty,n)) T):CallOk w d (onB ty n T):=fun f xs ks t K z fv vs kvs e k q=>by
 obtain⟨p,e1,e⟩:=zz e
 obtain⟨e2,e⟩:=zv e
 obtain⟨e3,e4⟩:=zx e2
 have e5:p=(ty,n):=Prod.ext (eq_of_beq e3) (eq_of_beq e4)
 obtain rfl:fv=bVal (ty,n):=(e5▸bName_ok e1▸q).inv
 exact h xs ks t K z vs kvs e k
theorem asFn_ok{f:SV}{a}(h:asFn f=some a):f= .top (.ref a):=by
 induction f using SV.casesOn with
 |top v=>
  induction v using Value.casesOn with
  |ref a=>cases h;rfl
  |_=>exact(zu rfl h).elim
 |_=>exact(zu rfl h).elim
theorem BTOk.at{a:Nat}{T:BT}(h:BTOk w d (.ref a) T):CallOk w d (onA a T):=fun f xs ks t K z fv vs kvs e k q=>by
 obtain⟨b,e1,e2⟩:=zz e
 obtain⟨e3,e4⟩:=zv e2
 obtain rfl:fv= .ref a:=Nat.eq_of_beq_eq_true e3▸(asFn_ok e1▸q).inv
 exact h xs ks t K z vs kvs e4 k
end
noncomputable def P0(w:World):Prims where
 op:=yw (h2 x6 binN)<|yw (h2 x5 cmpN)<|yw (h2 oInp inpN)<|yw (h1 oUna unaN)<|yw (h2 x6 binS)<|yw (h2 x6 binL)<|yw (h2 x5 cmpS)<|yw (h2 x5 cmpIs)<|yw (h2 x5 cmpInI)<|yw (h2 x5 cmpInS)<|yw (h2 wd subL)<|yw (h2 wd subT)<|yw (h1 oAtt (attA w))<|h2 oSeA (setA0 w)
 meth:=fun _ _ _=>none
 call:=zp (onB false "len" (b1 lenB))<|zp (onB false "abs" (b1 absB))<|zp (onB true "int" (b1 intB))<|zp (onB true "range" (b1 rng1))<|zp (onB true "range" (b2 rng2))<|onB false "isinstance" (b2 (isinB w))
 iter:=xp iterL<|xp iterT iterR
 special:=fun _ _ _=>none
 loop:=fun _ _ _ _=>none
 forl:=fun _ _ _ _ _=>none
 frz:=fun _=>false
theorem P0_ok(w:World)(d:Nat):Sound w (P0 w) d where
 op:=binN_ok.or<|cmpN_ok.or<|inpN_ok.or<|unaN_ok.or<|binS_ok.or<|binL_ok.or<|cmpS_ok.or<|cmpIs_ok.or<|cmpInI_ok.or<|cmpInS_ok.or<|subL_ok.or<|subT_ok.or<|attA_ok.or setA0_ok
 meth:=fun _ _ _ _ _ _ _ _ _ _ h=>(zu rfl h).elim
 call:=CallOk.or lenB_ok.on<|CallOk.or absB_ok.on<|CallOk.or (BTOk.on (ty:=true) intB_ok)<|CallOk.or (BTOk.on (ty:=true) rng1_ok)<|CallOk.or (BTOk.on (ty:=true) rng2_ok) isinB_ok.on
 iter:=xG.iter.or<|iterT_ok.iter.or iterR_ok.iter
 special:=fun _ _ _ _ _ _ h=>(zu rfl h).elim
 loop:=fun _ _ _ _ _ _ _ _ _ h=>(zu rfl h).elim
 forl:=fun _ _ _ _ _ _ _ _ _ _ _ h=>(zu rfl h).elim
noncomputable def yh(w:World)(P:Prims)(n a k:Nat)(xs:List SV)(ks:List (Str×SV))(st:St)(K:KV):Prop:=match k with
 |0=>fnB w P n a xs ks st fun v st1=>K v (st1.drop st.nx)
 |k+1=>zg (initOf a clT) fun i=>fnB w P n i (.obj a st.nx::xs) ks (st.push (.inst [])) fun v st1=>initK (Nat.beq k 0) a K st.nx v (st1.drop (st.nx+1))
noncomputable def inlH(w:World)(P:Prims)(n:Nat)(L:List (Nat×Nat)):CallH:=fun f xs ks st=>(asFn f).bind fun a=>(initOf a L).bind fun k=>some (yh w P n a k xs ks st)
noncomputable def yb(K:SV→Prop):KV:=fun v st=>zg (y5 6 st v) fun p=>K p.1
section
variable {w:World}{d n:Nat}{z:Z}{P:Prims}{xs:List SV}{vs:List Value}{ks:List (Str×SV)}{kvs:List (Str×Value)}{a C:Nat}
theorem inlT_ok(S:Sound w P d){k K}(h:yh w P n a k xs ks z.st K)(q:VRels z.y xs vs)(qk:FRels z.y ks kvs):W w (d+1) VRel K z (call (.ref a) vs kvs):=by
 cases k with
 |zero=>exact fn_inl S h q qk
 |succ k=>
  obtain⟨i,e,h⟩:=zr h
  exact cl_inl S e h q qk
theorem yH(S:Sound w P d)(L:List (Nat×Nat)):CallOk w (d+1) (inlH w P n L):=fun f xs ks t K z fv vs kvs e h q qs qk=>by
 obtain⟨a,e1,e2⟩:=zz e
 obtain⟨k,_,e3⟩:=zz e2
 cases e3
 obtain rfl:fv= .ref a:=(asFn_ok e1▸q).inv
 exact inlT_ok S h qs qk
noncomputable abbrev Prims.calls(P:Prims)(h:CallH):Prims:={P with call:=zp h P.call}
noncomputable abbrev Prims.ops(P:Prims)(h:OpH):Prims:={P with op:=yw h P.op}
theorem Sound.calls(S:Sound w P d){h:CallH}(c:CallOk w d h):Sound w (P.calls h) d:={S with call:=c.or S.call}
theorem Sound.ops(S:Sound w P d){h:OpH}(c:OpOk w d h):Sound w (P.ops h) d:={S with op:=c.or S.op}
theorem W.base{K:KV}{t:Sem Value}(h:W w d VRel (yb fun v=>K v z.st) (z.to st0) t):W w d VRel K z t:=fun A E ha ok=>
 wm (h A E ha ⟨ok.rep.inner 4,ok.base⟩) fun v s p=>by
  cases p with
  | @mk z1 _ _ S q k=>
   obtain⟨p,e,k⟩:=zr k
   rcases yg 6 e S.rep q with @⟨G,S3,v3,p3⟩
   exact .mk (z':=⟨G,z.ρ,z.st,z1.s⟩) ((S.trans S3).outer ok.rep) (v3.move p3) k
theorem zM(S:Sound w P d){k}{K:KV}(px:zt xs=true)(pk:pureF ks=true)(h:yh w P n a k xs ks st0 (yb fun v=>K v z.st))(q:VRels z.y xs vs)(qk:FRels z.y ks kvs):W w (d+1) VRel K z (call (.ref a) vs kvs):=
 W.base (inlT_ok (z:=z.to st0) S h (q.move px) (qk.move pk))
end
noncomputable def whl(s:Option Stmt):Expr×List Stmt:=match s with
 |some (.While t b _ _)=>(t,b)
 |_=>(.Constant .none 0 ⟨0,0,0,0⟩,[])
noncomputable def gl:Expr×List Stmt:=whl ((mt 6 0).2.1[11]?)
noncomputable def gfr:FrS:=⟨5,[],(mt 6 0).2.2,.ref 64⟩
noncomputable def gst(X Y:SV)(u l a b:Int):St:=⟨[(5,.ns "frame" [("self",.obj 194 4),("numerator",X),("denominator",Y),("upper",.sint u),("lower",.sint l),("divisor",.sint a),("rest",.sint b)]),(4,.inst [])],6⟩
theorem gcd_test(w:World)(X Y:SV)(u l a b:Int)(K:KT):vc w (P0 w) 20 (.T gl.1 gfr (gst X Y u l a b) K)=K true (b !=0) (gst X Y u l a b):=by kernel_rfl
noncomputable def asg:List Stmt→List Expr×Expr
 | .Assign ts e _::_=>(ts,e)
 |_=>([],.Constant .none 0 ⟨0,0,0,0⟩)
noncomputable def swapped(l:List Stmt):Sem (Option (List Str)):=swappedStores (asg l).1 (asg l).2 (envOf gfr.scope)
theorem gcd_swap:swapped gl.2=pure (some [("divisor":Str),"rest"]):=by kernel_rfl
theorem gcd_body(w:World)(X Y:SV)(u l a b:Int)(K:KF):vc w (P0 w) 40 (.Ss gl.2 gfr (gst X Y u l a b) K)=(swapped gl.2=pure (some [("divisor":Str),"rest"])∧true=true∧b≠0∧K .next (gst X Y u l b (a.fmod b))):=by kernel_rfl
theorem gcd_fmod{l u:Int}(hl:0<l):Int.gcd l (u.fmod l)=Int.gcd l u:=by
 rw [Int.fmod_eq_emod_of_nonneg u (Int.le_of_lt hl)]
 have h:=Int.gcd_add_mul_left_right l (u%l) (u/l)
 rw [Int.emod_add_mul_ediv]at h
 exact h.symm
inductive GcdI(w:World)(env:Env)(X Y:SV)(u l a b:Int)(z:Z)(m:Nat)(s:Shared):Prop
 |mk {z' a' b'}:Step z z'→Ok w z'→z'.st=gst X Y u l a' b'→EnvOk z'.y gfr env→Int.gcd a' b'=Int.gcd a b→0<a'→0≤b'→m=b'.toNat→s=z'.s→GcdI w env X Y u l a b z m s
section
variable {w:World}{d:Nat}{z:Z}{A:Around}{E:Value→Shared→Prop}
theorem gcd_loop{X Y:SV}{u l a b:Int}{K:KF}{env:Env}(hz:z.st=gst X Y u l a b)(ha0:0<a)(hb0:0≤b)(k:K .next (gst X Y u l (Int.gcd a b) 0))(ev:EnvOk z.y gfr env)(ha:AOk d A)(ok:Ok w z):
  codeAny (model pw w) A (.whileLoop gl.1 gl.2 [] env) (xr w A env E K z) z.s:=by
 refine codeAny_whileLoop (GcdI w env X Y u l a b z) (fun m s hI=> ?_) b.toNat (.mk (.refl ok.rep) ok hz ev rfl ha0 hb0 rfl rfl)
 rcases hI with @⟨z1,a1,b1,S1,o1,e1,ev1,hg,ha1,hb1,rfl,rfl⟩
 have h1:vc w (P0 w) 20 (.T gl.1 gfr z1.st fun _ c st=>c=(b1 !=0)∧st=gst X Y u l a1 b1):=by rw [e1,gcd_test];exact⟨rfl,rfl⟩
 refine(ya (P0_ok w d) h1 z1 env rfl ev1).go o1 ha fun z2 c cu S2 o2 q2 k2=> ?_
 obtain⟨k2,e2⟩:=k2
 obtain rfl:=q2.symm.trans k2
 have SS:=S1.trans S2
 have ev2:=S2.env ev1
 by_cases hb:b1=0
 ·subst hb
  rw [if_neg (by decide)]
  refine wpAny_execs_nil (.mk SS .next ?_)
  rw [e2]
  rw [←hg,Int.gcd_zero_right,Int.natAbs_of_nonneg (Int.le_of_lt ha1)]at k
  exact k
 ·have hbp:0<b1:=Int.lt_iff_le_and_ne.mpr ⟨hb1,Ne.symm hb⟩
  rw [if_pos (bne_iff_ne.mpr hb)]
  have h2:vc w (P0 w) 40 (.Ss gl.2 gfr z2.st fun f st=>f= .next∧st=gst X Y u l b1 (a1.fmod b1)):=by rw [e2,gcd_body];exact⟨gcd_swap,rfl,hb,rfl,rfl⟩
  refine(ya (P0_ok w d) h2 z2 env rfl ev2).go o2 ha fun z3 f fu S3 o3 q3 k3=> ?_
  obtain⟨rfl,e3⟩:=k3
  cases q3
  have hm:=Int.fmod_lt_of_pos a1 hbp
  exact⟨(a1.fmod b1).toNat,(Int.toNat_lt_toNat hbp).mpr hm,.mk (SS.trans S3) o3 e3 (S3.env ev2) ((gcd_fmod hbp).trans ((Int.gcd_comm _ _).trans hg)) hbp (Int.fmod_nonneg_of_pos a1 hbp) rfl rfl⟩
noncomputable def gcdTr(t:Expr)(b:List Stmt)(fr:FrS)(st:St)(K:KF):Prop:=(t,b)=gl∧fr=gfr∧∃X Y u l a b,st=gst X Y u l a b∧0<a∧0≤b∧K .next (gst X Y u l (Int.gcd a b) 0)
noncomputable def P0L(w:World):Prims:={P0 w with loop:=fun t b fr st=>(xo t).bind fun x=>zj (x=="rest") (some (gcdTr t b fr st))}
theorem P0L_ok(w:World)(d:Nat):Sound w (P0L w) d:={P0_ok w d with
 loop:=fun t b fr tr K z env A E h k ev ha ok=>by
  obtain⟨x,_,h⟩:=zz h
  obtain⟨_,h⟩:=zv h
  cases h
  obtain⟨h1,rfl,X,Y,u,l,a,b',hz,ha0,hb0,k⟩:=k
  obtain⟨h1,h2⟩:=Prod.mk.inj h1
  rw [h1,h2]
  exact gcd_loop hz ha0 hb0 k ev ha ok}
end
noncomputable abbrev nd(a b:SV):SV:= .vinst 194 [("numerator",a),("denominator",b)]
noncomputable def fAfter(u l g:Int)(K:SV→Prop):Prop:=(g≠0∧Builtin.divisionGoesByPylong u g=false)∧(g≠0∧Builtin.divisionGoesByPylong l g=false)∧K (nd (.sint (u.fdiv g)) (.sint (l.fdiv g)))
noncomputable def fTail(a b u l:Int)(K:SV→Prop):Prop:=gl=gl∧gfr=gfr∧∃X Y u' l' a' b',gst (.sint a) (.sint b) u l l (u.fmod l)=gst X Y u' l' a' b'∧0<a'∧0≤b'∧fAfter u' l' (Int.gcd a' b') K
noncomputable def fWhole(a b:Int)(K:SV→Prop):Prop:=((b==0)=true→False)∧((b==0)=false→(decide (b<0)=true→(-b≠0∧fTail a b (-a) (-b) K))∧(decide (b<0)=false→(b≠0∧fTail a b a b K)))
theorem frac_vc(w:World)(K:SV→Prop)(a b:Int):yh w (P0L w) 60 194 1 [.sint a,.sint b] [] st0 (yb K)=fWhole a b K:=by kernel_rfl
theorem frac_vc1(w:World)(K:SV→Prop)(a:Int):yh w (P0L w) 60 194 1 [.sint a] [] st0 (yb K)=fWhole a 1 K:=by kernel_rfl
theorem small_div{u g:Int}(h:g.natAbs<2^64):Builtin.divisionGoesByPylong u g=false:=by
 unfold Builtin.divisionGoesByPylong
 have:(decide ((if(g==0)=true then 0 else g.natAbs.log2/30+1)>300))=false:=by
  apply decide_eq_false
  split
  ·decide
  ·have h1:g.natAbs.log2≤64:=by
    by_cases h0:g.natAbs=0
    ·rw [h0];decide
    ·exact Nat.le_of_lt ((Nat.log2_lt h0).mpr h)
   omega
 show(decide ((if(g==0)=true then 0 else g.natAbs.log2/30+1)>300) &&_)=false
 rw [this];rfl
theorem fAfter_ok{a b u l:Int}{K:SV→Prop}(hl:0<l)(hul:u=b.sign*a)(hlb:l=b.natAbs)(hb:b.natAbs<2^64)(hb0:b≠0)
  (k:K (nd (.sint (Rat.divInt a b).num) (.sint (Rat.divInt a b).den))):fTail a b u l K:=by
 refine⟨rfl,rfl,_,_,_,_,_,_,rfl,hl,Int.fmod_nonneg_of_pos u hl,?_⟩
 have hg:Int.gcd l (u.fmod l)=Int.gcd b a:=by
  rw [gcd_fmod hl,hlb,hul]
  unfold Int.gcd
  rw [Int.natAbs_mul,Int.natAbs_sign_of_ne_zero hb0,Nat.one_mul,Int.natAbs_natCast]
 rw [hg]
 have hpos:0<Int.gcd b a:=Int.gcd_pos_of_ne_zero_left a hb0
 have hsm:((Int.gcd b a:Int)).natAbs<2^64:=Nat.lt_of_le_of_lt (Nat.le_of_dvd (Int.natAbs_pos.mpr hb0) (Nat.gcd_dvd_left _ _)) hb
 have hne:(Int.gcd b a:Int)≠0:=Int.ofNat_ne_zero.mpr (Nat.ne_of_gt hpos)
 refine⟨⟨hne,small_div hsm⟩,⟨hne,small_div hsm⟩,?_⟩
 rw [Int.fdiv_eq_ediv_of_nonneg _ (Int.natCast_nonneg _),Int.fdiv_eq_ediv_of_nonneg _ (Int.natCast_nonneg _),hul,hlb]
 rw [Rat.num_divInt,Rat.den_divInt,if_neg hb0]at k
 rw [←Int.natCast_ediv]
 exact k
theorem fAll{a b:Int}{K:SV→Prop}(hb0:b≠0)(hb:b.natAbs<2^64)(k:K (nd (.sint (Rat.divInt a b).num) (.sint (Rat.divInt a b).den))):fWhole a b K:=by
 refine⟨fun h=>hb0 (eq_of_beq h),fun _=>⟨fun h=>⟨Int.neg_ne_zero.mpr hb0,?_⟩,fun h=>⟨hb0,?_⟩⟩⟩
 ·have hneg:=of_decide_eq_true h
  exact fAfter_ok (Int.neg_pos_of_neg hneg) (by rw [Int.sign_eq_neg_one_of_neg hneg,Int.neg_one_mul]) (Int.ofNat_natAbs_of_nonpos (Int.le_of_lt hneg)).symm hb hb0 k
 ·have hpos:0<b:=Int.lt_iff_le_and_ne.mpr ⟨Int.not_lt.mp (of_decide_eq_false h),Ne.symm hb0⟩
  exact fAfter_ok hpos (by rw [Int.sign_eq_one_of_pos hpos,Int.one_mul]) (Int.natAbs_of_nonneg (Int.le_of_lt hpos)).symm hb hb0 k
noncomputable def fracC(a b:Int)(st:St):Tr:=some fun K=>b≠0∧b.natAbs<2^64∧K (.frac (Rat.divInt a b)) st
noncomputable def frac1(x:SV)(st:St):Tr:=(asN x).bind fun p=>fracC p.2 1 st
noncomputable def frac2(x y:SV)(st:St):Tr:=(asN x).bind fun p=>(asN y).bind fun q=>fracC p.2 q.2 st
section
variable {w:World}{d:Nat}{z:Z}{y:Y}{v:Value}{x:SV}
theorem frac_of{q:Rat}{a b:Int}(h:VRel y (nd (.sint a) (.sint b)) v)(ha:q.num=a)(hb:(q.den:Int)=b):VRel y (.frac q) v:=by
 subst ha;subst hb
 rcases h.inv with⟨h1,h2,h3,h4⟩
 cases h4 with
 |cons p1 h4=>
  cases h4 with
  |cons p2 h4=>
   cases h4
   obtain⟨t,rfl⟩:=p1.inv
   obtain⟨u,rfl⟩:=p2.inv
   refine .frac (t:=t) (u:=u) h1 h2 ?_
   obtain⟨es,ep,e1,e2,e3⟩:=h3
   refine⟨es,ep,e1,e2,fun name=>(e3 name).trans ?_⟩
   show List.lookup name [(Str.ofString "numerator",Value.int q.num t),(Str.ofString "denominator",Value.int q.den u)]=fracM q t u name
   unfold fracM
   rw [List.lookup_cons,List.lookup_cons]
   by_cases n1:name="numerator"
   ·subst n1;rfl
   ·rw [show(name==Str.ofString "numerator")=false from beq_false_of_ne n1]
    by_cases n2:name="denominator"
    ·subst n2;rfl
    ·rw [show(name==Str.ofString "denominator")=false from beq_false_of_ne n2,if_neg n2,if_neg n1];rfl
theorem fracC_ok{a b:Int}{t K}{xs vs}(e:fracC a b z.st=some t)(k:t K)(q:VRels z.y xs vs)(hv:∀K,yh w (P0L w) 60 194 1 xs [] st0 (yb K)=fWhole a b K)(px:zt xs=true):W w (d+1) VRel K z (call (.ref 194) vs []):=by
 cases e
 obtain⟨hb0,hb,k⟩:=k
 have h:=zM (K:=fun v st=>st=z.st∧v=nd (.sint (Rat.divInt a b).num) (.sint (Rat.divInt a b).den)) (P0L_ok w d) px rfl (by rw [hv];exact fAll hb0 hb ⟨rfl,rfl⟩) q .nil
 exact fun A E ha ok=>wm (h A E ha ok) fun v s p=>by
  cases p with|mk S q k2=>exact .mk S (frac_of (k2.2▸q) rfl rfl) (k2.1.symm▸k)
theorem sint_of{p}(h:asN x=some p)(q:VRel y x v):VRel y (.sint p.2) v:=by
 obtain⟨t,rfl⟩:=zL h q
 exact .num
theorem frac1_ok:BTOk w (d+1) (.ref 194) (b1 frac1):=yx fun x t K z v e k q=>by
 obtain⟨p,e1,e⟩:=zz e
 exact fracC_ok e k (.cons (sint_of e1 q) .nil) (fun K=>frac_vc1 w K p.2) rfl
theorem frac2_ok:BTOk w (d+1) (.ref 194) (b2 frac2):=b2_ok fun x y t K z v u e k q q2=>by
 obtain⟨p,e1,e⟩:=zz e
 obtain⟨p',e2,e⟩:=zz e
 exact fracC_ok e k (.cons (sint_of e1 q) (.cons (sint_of e2 q2) .nil)) (fun K=>frac_vc w K p.2 p'.2) rfl
noncomputable def P1(w:World):Prims:=(P0 w).calls (zp (onA 194 (b1 frac1)) (onA 194 (b2 frac2)))
theorem P1_ok(w:World)(d:Nat):Sound w (P1 w) (d+1):=(P0_ok w (d+1)).calls (frac1_ok.at.or frac2_ok.at)
end
section
variable {prog:Program}{w:World}{A:Around}{E:Value→Shared→Prop}{s:Shared}{K:Frag}{x C f:Addr}{ox:Obj}{od:Option Obj}{op:Operator}{b:Value}{Q:Value→Shared→Prop}{cd:ClassData}
theorem fills_no{M:Model}{h:Heap}{nm:String}{add:Bool}(X:K.In h)(hc:clsIn K C=some cd)(hm:cd.mro=[.ref C,.type "object"])(hs:findIn K (.ref C) (dunderI nm)=some none)(ho:findIn K (.type "object") (dunderI nm)=some none):Looks M h (fillsInplaceSlot (.ref C) nm add) false:=by
 have L1:Looks M h (typeLookup (.ref C) (dunderI nm)) none:=looks_findIn X hs
 have L2:Looks M h (typeLookup (.type "object") (dunderI nm)) none:=looks_findIn X ho
 refine Looks.andThen (t:=mroOf (.ref C)) ((looks_clsIn X hc).andThen (f:=fun cd=>pure cd.mro) .now) ?_
 rw [hm,List.anyM_cons]
 refine Looks.andThen (a:=false) (L1.andThen .now) ?_
 show Looks M h (List.anyM _ _) false
 rw [List.anyM_cons]
 exact Looks.andThen (a:=false) (L2.andThen .now) .now
theorem bin1_own{nm:String}(X:K.In s.heap)(I:InstAt s.heap x ox C od)(hb:Looks (model prog w) s.heap (typeOf b) (.ref C))(hcd:clsIn K C=some cd)(hm:cd.mro=[.ref C,.type "object"])
  (hs:findIn K (.ref C) (PySem.dunder nm)=some (some (.ref f))) (hf:isFn K (.ref f)=true)
  (h:wpAny (model prog w) A (call (.ref f) [.ref x,b]) (W.CmpBack Q) E s):wpAny (model prog w) A (binaryOp1 nm (.ref x) b) (fun r s'=>∃v,r=some v∧Q v s') E s:=by
 refine wpAny_bind (I.type.here (wpAny_bind (hb.here (wpAny_bind ((fills_K X hcd hm hs).here ?_)))))
 rw [beq_self_eq_true]
 refine wpAny_bind (m:=tryMethod (.ref x) (PySem.dunder nm) b) (wpAny_mono (ksp_try X I hs hf h) (fun r s' hr=> ?_) fun _ _ e=>e)
 obtain⟨v,rfl,hq⟩:=hr
 exact wpAny_pure ⟨v,rfl,hq⟩
theorem bin1_T{nm T:String}{fo ro rc:Option Value}(X:K.In s.heap)(I:W.InstAt s.heap x ox C od)(hb:typeOf b=pure (.type T))(hcd:clsIn K C=some cd)(hm:cd.mro=[.ref C,.type "object"])
  (hs:findIn K (.ref C) (PySem.dunder nm)=some (some (.ref f))) (hf:isFn K (.ref f)=true) (hr:findIn K (.ref C) (dunderR nm)=some rc) (hp:rc=none∨∃g:Addr,rc=some (.ref g))
  (h1:findIn K (.type T) (PySem.dunder nm)=some fo) (h2:findIn K (.type T) (dunderR nm)=some ro) (hsub:subIn K (.type T) (.ref C)=some false)
  (h:wpAny (model prog w) A (call (.ref f) [.ref x,b]) (W.CmpBack Q) E s):wpAny (model prog w) A (binaryOp1 nm (.ref x) b) (fun r s'=>∃v,r=some v∧Q v s') E s:=by
 have one:=ksp_try X I hs hf h
 refine wpAny_bind (I.type.here (wpAny_bind ((Looks.of_pure hb).here (wpAny_bind ((fills_K X hcd hm hs).here ?_)))))
 rw [beq_false_of_ne fun q=>nomatch (q:Value.ref C=Value.type T)]
 refine wpAny_bind (m:=fillsNumberSlot (.type T) nm) ((ksp_fillsT X h1 h2).here ?_)
 generalize ((fo.isSome&& !isSeqSlot fo)||(ro.isSome&& !isSeqSlot ro))=right
 cases right with
 |false=>
  refine wpAny_bind (m:=tryMethod (.ref x) (PySem.dunder nm) b) (wpAny_mono one (fun r s' hr=> ?_) fun _ _ e=>e)
  obtain⟨v,rfl,hq⟩:=hr
  exact wpAny_pure ⟨v,rfl,hq⟩
 |true=>
  refine wpAny_bind (m:=isSubtype (.type T) (.ref C)) ((looks_subIn X hsub).here ?_)
  refine wpAny_bind (m:=numberSlotInPython (.ref C) nm) ((ksp_inPy X hs hr hp).here ?_)
  refine wpAny_bind (m:=typeLookup (.type T) (dunderR nm)) ((looks_findIn X h2).here ?_)
  refine wpAny_bind (m:=tryMethod (.ref x) (PySem.dunder nm) b) (wpAny_mono one (fun r s' hr=> ?_) fun _ _ e=>e)
  obtain⟨v,rfl,hq⟩:=hr
  exact wpAny_pure ⟨v,rfl,hq⟩
theorem bin_of(h:wpAny (model prog w) A (binaryOp1 op.info.2 (.ref x) b) (fun r s'=>∃v,r=some v∧Q v s') E s):wpAny (model prog w) A (binaryOp op (.ref x) b) Q E s:=by
 refine wpAny_holding (wpAny_bind (m:=binaryOp1 op.info.2 (.ref x) b) (wpAny_mono h (fun r s' hr=> ?_) fun _ _ e=>e))
 obtain⟨v,rfl,hq⟩:=hr
 exact wpAny_pure hq
theorem inp_of(X:K.In s.heap)(I:W.InstAt s.heap x ox C od)(hcd:clsIn K C=some cd)(hm:cd.mro=[.ref C,.type "object"])
  (hn:findIn K (.ref C) (dunderI op.info.2)=some none) (hno:findIn K (.type "object") (dunderI op.info.2)=some none)
  (h:wpAny (model prog w) A (binaryOp1 op.info.2 (.ref x) b) (fun r s'=>∃v,r=some v∧Q v s') E s):wpAny (model prog w) A (inplaceOp op (.ref x) b) Q E s:=by
 refine wpAny_holding (wpAny_bind (I.type.here (wpAny_bind ((fills_no X hcd hm hn hno).here ?_))))
 refine wpAny_bind (m:=binaryOp1 op.info.2 (.ref x) b) (wpAny_mono h (fun r s' hr=> ?_) fun _ _ e=>e)
 obtain⟨v,rfl,hq⟩:=hr
 exact wpAny_pure hq
end
section
variable {w:World}{K:SV→Prop}{p q:Rat}{n:Int}
noncomputable abbrev fT(w:World)(a:Nat)(x y:SV)(K:SV→Prop):Prop:=yh w (P1 w) 60 a 0 [x,y] [] st0 (yb K)
theorem v107F:fT w 107 (.frac p) (.frac q) K=(IntMulOk p.num q.den∧IntMulOk q.num p.den∧IntMulOk p.den q.den∧(p.den:Int)*q.den≠0∧((p.den:Int)*q.den).natAbs<2^64∧K (.frac (Rat.divInt (p.num*q.den+q.num*p.den) (p.den*q.den)))):=by kernel_rfl
theorem v107I:fT w 107 (.frac p) (.sint n) K=(IntMulOk n p.den∧(p.den:Int)≠0∧(p.den:Int).natAbs<2^64∧K (.frac (Rat.divInt (p.num+n*p.den) p.den))):=by kernel_rfl
theorem v135I:fT w 135 (.frac p) (.sint n) K=(IntMulOk p.num n∧(p.den:Int)≠0∧(p.den:Int).natAbs<2^64∧K (.frac (Rat.divInt (p.num*n) p.den))):=by kernel_rfl
theorem v170F:fT w 170 (.frac p) (.frac q) K=(IntMulOk p.num q.den∧IntMulOk q.num p.den∧K (.sbool (decide (p.num*q.den<q.num*p.den)))):=by kernel_rfl
theorem v184F:fT w 184 (.frac p) (.frac q) K=(IntMulOk p.num q.den∧IntMulOk q.num p.den∧K (.sbool (decide (q.num*p.den<p.num*q.den)))):=by kernel_rfl
theorem v184I:fT w 184 (.frac p) (.sint n) K=(IntMulOk n p.den∧K (.sbool (decide (n*p.den<p.num)))):=by kernel_rfl
theorem v191F:fT w 191 (.frac p) (.frac q) K=(IntMulOk p.num q.den∧IntMulOk q.num p.den∧K (.sbool (decide (q.num*p.den≤p.num*q.den)))):=by kernel_rfl
theorem v163F:fT w 163 (.frac p) (.frac q) K=(((p.num==q.num)=true→K (.sbool ((p.den:Int)==q.den)))∧((p.num==q.num)=false→K (.sbool (p.num==q.num)))):=by kernel_rfl
theorem v163I:fT w 163 (.frac p) (.sint n) K=((((p.den:Int)==1)=true→K (.sbool (p.num==n)))∧(((p.den:Int)==1)=false→K (.sbool ((p.den:Int)==1)))):=by kernel_rfl
theorem den_nz(p:Rat):(p.den:Int)≠0:=Int.ofNat_ne_zero.mpr p.den_nz
theorem y9{a b:Int}(h:b.natAbs<2^64):IntMulOk a b:= .of_right (by
 unfold Builtin.Int.intBits
 split
 ·decide
 ·rename_i h0
  exact(Nat.log2_lt fun q=>h0 (by rw [Int.natAbs_eq_zero.mp q];rfl)).mpr h)
theorem rat_add_int(p:Rat)(n:Int):p+n=Rat.divInt (p.num+n*p.den) p.den:=by
 rw [Rat.add_def',Rat.divInt_ofNat,Rat.den_intCast,Rat.num_intCast,Int.ofNat_one,Int.mul_one,Nat.mul_one]
theorem rat_mul_int(p:Rat)(n:Int):p*n=Rat.divInt (p.num*n) p.den:=by
 rw [Rat.mul_def',Rat.divInt_ofNat,Rat.den_intCast,Rat.num_intCast,Nat.mul_one]
end
noncomputable def asF(x:SV):Option Rat:=match x with
 | .frac q=>some q
 |_=>none
noncomputable def asQ(x:SV):Option Rat:=match x with
 | .frac q=>some q
 | .num _ n=>some n
 |_=>none
noncomputable def isFr(x:SV):Bool:=match x with
 | .frac _=>true
 |_=>false
noncomputable def fop(a:Nat)(p r:Rat):Bool×Bool×Prop×SV:=match a with
 |107=>(true,true,p.den*r.den<2^64,.frac (p+r))
 |135=>(true,false,p.den<2^64∧r.num.natAbs<2^64,.frac (p*r))
 |170=>(false,true,p.den<2^64∧r.den<2^64,.sbool (decide (p<r)))
 |184=>(true,true,p.den<2^64∧r.den<2^64,.sbool (decide (r<p)))
 |191=>(false,true,p.den<2^64∧r.den<2^64,.sbool (decide (r≤p)))
 |_=>(true,true,True,.sbool (decide (p=r)))
inductive OA:Op→Nat→Prop
 |add:OA (.bin .Add) 107
 |mul:OA (.bin .Mult) 135
 |iadd:OA (.inp .Add) 107
 |lt:OA (.cmp .Lt) 170
 |gt:OA (.cmp .Gt) 184
 |ge:OA (.cmp .GtE) 191
 |eq:OA (.cmp .Eq) 163
noncomputable def opA(o:Op):Option Nat:=match o with
 | .bin o=>(match o with
  | .Add=>some 107
  | .Mult=>some 135
  |_=>none)
 | .inp o=>(match o with
  | .Add=>some 107
  |_=>none)
 | .cmp o=>(match o with
  | .Lt=>some 170
  | .Gt=>some 184
  | .GtE=>some 191
  | .Eq=>some 163
  |_=>none)
 |_=>none
theorem opA_ok{o a}(h:opA o=some a):OA o a:=by
 induction o using Op.casesOn with
 |bin o=>
  induction o using Operator.casesOn with
  |Add=>cases h;exact .add
  |Mult=>cases h;exact .mul
  |_=>exact(zu rfl h).elim
 |inp o=>
  induction o using Operator.casesOn with
  |Add=>cases h;exact .iadd
  |_=>exact(zu rfl h).elim
 |cmp o=>
  induction o using CmpOp.casesOn with
  |Lt=>cases h;exact .lt
  |Gt=>cases h;exact .gt
  |GtE=>cases h;exact .ge
  |Eq=>cases h;exact .eq
  |_=>exact(zu rfl h).elim
 |_=>exact(zu rfl h).elim
section
variable {w:World}{K:SV→Prop}{p q:Rat}{n:Int}
theorem eq_tests{a b c d:Int}(h:p=q↔a=b∧c=d)(k:K (.sbool (decide (p=q)))):((a==b)=true→K (.sbool (c==d)))∧((a==b)=false→K (.sbool (a==b))):=by
 refine⟨fun e=> ?_,fun e=> ?_⟩
 ·rw [show(c==d)=decide (p=q)from Bool.eq_iff_iff.mpr (beq_iff_eq.trans ((h.trans (and_iff_right (eq_of_beq e))).symm.trans decide_eq_true_iff.symm))];exact k
 ·rw [e,←decide_eq_false fun z=>ne_of_beq_false e (h.mp z).1];exact k
theorem rat_eq:p=q↔p.num=q.num∧(p.den:Int)=q.den:=⟨fun e=>e▸⟨rfl,rfl⟩,fun e=>Rat.ext e.1 (Int.ofNat.inj e.2)⟩
theorem decP{P P':Prop}[Decidable P][Decidable P'](h:P↔P')(k:K (.sbool (decide P))):K (.sbool (decide P')):=(decide_eq_decide.mpr h:decide P=decide P')▸k
theorem fopF{o a}(h:OA o a)(hf:(fop a p q).2.1=true)(c:(fop a p q).2.2.1)(k:K (fop a p q).2.2.2):fT w a (.frac p) (.frac q) K:=by
 have add:p.den*q.den<2^64→K (.frac (p+q))→fT w 107 (.frac p) (.frac q) K:=fun c k=>by
  have hp:=Nat.lt_of_le_of_lt (Nat.le_mul_of_pos_right _ q.den_pos) c
  have hq:=Nat.lt_of_le_of_lt (Nat.le_mul_of_pos_left _ p.den_pos) c
  rw [v107F]
  refine⟨y9 hq,y9 hp,y9 hq,Int.mul_ne_zero (den_nz p) (den_nz q),c,?_⟩
  rw [Rat.add_def',←Rat.divInt_ofNat]at k
  exact k
 cases h with
 |add=>exact add c k
 |iadd=>exact add c k
 |mul=>exact Bool.noConfusion hf
 |lt=>rw [v170F];exact⟨y9 c.2,y9 c.1,decP (Rat.lt_iff _ _) k⟩
 |gt=>rw [v184F];exact⟨y9 c.2,y9 c.1,decP (Rat.lt_iff _ _) k⟩
 |ge=>rw [v191F];exact⟨y9 c.2,y9 c.1,decP (Rat.le_iff _ _) k⟩
 |eq=>rw [v163F];exact eq_tests rat_eq k
theorem fopI{o a}(h:OA o a)(hf:(fop a p n).1=true)(c:(fop a p n).2.2.1)(k:K (fop a p n).2.2.2):fT w a (.frac p) (.sint n) K:=by
 have add:p.den*(n:Rat).den<2^64→K (.frac (p+n))→fT w 107 (.frac p) (.sint n) K:=fun c k=>by
  rw [Rat.den_intCast,Nat.mul_one]at c
  rw [v107I,←rat_add_int]
  exact⟨y9 c,den_nz p,c,k⟩
 cases h with
 |add=>exact add c k
 |iadd=>exact add c k
 |mul=>
  rw [v135I,←rat_mul_int]
  exact⟨y9 c.2,den_nz p,c.1,k⟩
 |lt=>exact Bool.noConfusion hf
 |gt=>rw [v184I];exact⟨y9 c.1,decP (by rw [Rat.lt_iff,Rat.den_intCast,Rat.num_intCast,Int.ofNat_one,Int.mul_one]) k⟩
 |ge=>exact Bool.noConfusion hf
 |eq=>rw [v163I];exact eq_tests (by rw [rat_eq,Rat.den_intCast,Rat.num_intCast];exact and_comm) k
end
section
variable {prog:Program}{w:World}{A:Around}{E:Value→Shared→Prop}{s:Shared}{K:Frag}{x C f:Addr}{ox:Obj}{od:Option Obj}{op:CmpOp}{b tb:Value}{Q:Value→Shared→Prop}
theorem cmp_own(hu:A.units<cLine)(X:K.In s.heap)(I:W.InstAt s.heap x ox C od)(hb:Looks (model prog w) s.heap (typeOf b) tb)(hr:(Value.ref C !=tb)=true→Looks (model prog w) s.heap (isSubtype tb (.ref C)) false)
  (hs:findIn K (.ref C) (cmpInfo op).2.1=some (some (.ref f))) (hf:isFn K (.ref f)=true)
  (h:wpAny (model prog w) A (call (.ref f) [.ref x,b]) (W.CmpBack Q) E s):wpAny (model prog w) A (richCompare op (.ref x) b) Q E s:=by
 have one:wpAny (model prog w) A (tryCompare (.ref x) (cmpInfo op).2.1 b) (fun r s'=>∃v,r=some v∧Q v s') E s:=by
  unfold tryCompare
  refine wpAny_bind (ifBound_K X I hs hf (wpAny_mono h (fun v s' hv=> ?_) fun _ _ e=>e))
  cases v<;>first|exact hv.elim|exact wpAny_pure ⟨_,rfl,hv⟩
 unfold richCompare
 rw [oneThing_ref]
 refine wpAny_holding (wpAny_bind (wpAny_cRoomFor hu ?_))
 refine wpAny_bind (m:=typeOf (.ref x)) (I.type.here (wpAny_bind (m:=typeOf b) (hb.here ?_)))
 generalize (Value.ref C !=tb)=c at hr
 cases c with
 |false=>
  refine wpAny_bind (m:=tryCompare (.ref x) (cmpInfo op).2.1 b) (wpAny_mono one (fun r s' hr=> ?_) fun _ _ e=>e)
  obtain⟨v,rfl,hq⟩:=hr
  exact wpAny_pure hq
 |true=>
  refine wpAny_bind (m:=isSubtype tb (.ref C)) ((hr rfl).here ?_)
  refine wpAny_bind (m:=tryCompare (.ref x) (cmpInfo op).2.1 b) (wpAny_mono one (fun r s' hr=> ?_) fun _ _ e=>e)
  obtain⟨v,rfl,hq⟩:=hr
  exact wpAny_pure hq
end
noncomputable def mro2(K:Frag)(C:Addr):Bool:=(clsIn K C).any fun cd=>cd.mro==[.ref C,.type "object"]
inductive RT(M:Model)(h:Heap)(u:Value):Prop
 |own:Looks M h (typeOf u) (.ref CF)→RT M h u
 |int:typeOf u=pure (.type "int")→RT M h u
section
variable {w:World}{A:Around}{E:Value→Shared→Prop}{x:Addr}{ox:Obj}{od:Option Obj}{u:Value}{Q:Value→Shared→Prop}{s:Shared}
theorem disp1{nm:String}{f g:Addr}{fo ro:Option Value}(X:(KH w.params).In s.heap)(I:W.InstAt s.heap x ox CF od)(hb:RT (model pw w) s.heap u)
  (hs:findIn (KH w.params) (.ref CF) (PySem.dunder nm)=some (some (.ref f))) (hf:isFn (KH w.params) (.ref f)=true) (hr:findIn (KH w.params) (.ref CF) (dunderR nm)=some (some (.ref g)))
  (h1:findIn (KH w.params) (.type "int") (PySem.dunder nm)=some fo) (h2:findIn (KH w.params) (.type "int") (dunderR nm)=some ro)
  (h:wpAny (model pw w) A (call (.ref f) [.ref x,u]) (W.CmpBack Q) E s):wpAny (model pw w) A (binaryOp1 nm (.ref x) u) (fun r s'=>∃v,r=some v∧Q v s') E s:=by
 obtain⟨cd,hcd,hm⟩:=any_some (show mro2 (KH w.params) CF=true by kernel_rfl)
 cases hb with
 |own hb=>exact bin1_own X I hb hcd (eq_of_beq hm) hs hf h
 |int hb=>exact bin1_T X I hb hcd (eq_of_beq hm) hs hf hr (.inr ⟨g,rfl⟩) h1 h2 (by kernel_rfl) h
theorem dispC{op:CmpOp}{f:Addr}(hu:A.units<cLine)(X:(KH w.params).In s.heap)(I:W.InstAt s.heap x ox CF od)(hb:RT (model pw w) s.heap u)
  (hs:findIn (KH w.params) (.ref CF) (cmpInfo op).2.1=some (some (.ref f))) (hf:isFn (KH w.params) (.ref f)=true)
  (h:wpAny (model pw w) A (call (.ref f) [.ref x,u]) (W.CmpBack Q) E s):wpAny (model pw w) A (richCompare op (.ref x) u) Q E s:=by
 cases hb with
 |own hb=>exact cmp_own hu X I hb (fun q=>Bool.noConfusion ((bne_self_eq_false _).symm.trans q)) hs hf h
 |int hb=>exact cmp_own hu X I (Looks.of_pure hb) (fun _=>looks_subIn X (by kernel_rfl)) hs hf h
theorem dispA(X:(KH w.params).In s.heap)(I:W.InstAt s.heap x ox CF od)(hb:RT (model pw w) s.heap u)(h:wpAny (model pw w) A (call (.ref 107) [.ref x,u]) (W.CmpBack Q) E s):wpAny (model pw w) A (binaryOp1 (Operator.info .Add).2 (.ref x) u) (fun r s'=>∃v,r=some v∧Q v s') E s:=
 disp1 (g:=114) (fo:=some (.builtin "int.__add__")) (ro:=some (.builtin "int.__radd__")) X I hb (by kernel_rfl) (by kernel_rfl) (by kernel_rfl) (by kernel_rfl) (by kernel_rfl) h
theorem disp{d:Nat}{z:Z}{K:KV}{o:Op}{a:Nat}(h:OA o a)(I:Ok w z→W.InstAt z.s.heap x ox CF od)(hb:Ok w z→RT (model pw w) z.s.heap u)
  (hc:∀A E,AOk d A→Ok w z→wpAny (model pw w) A (call (.ref a) [.ref x,u]) (W.CmpBack (Post VRel K z)) E z.s):OpW w d K z o [.ref x,u]:=by
 have hu:∀{A},AOk d A→A.units<cLine:=fun ha=>Nat.lt_of_le_of_lt (Nat.le_add_right _ _) ha.2.2
 cases h with
 |add=>exact fun A E ha ok=>bin_of (dispA ok.kin (I ok) (hb ok) (hc A E ha ok))
 |mul=>exact fun A E ha ok=>bin_of (disp1 (g:=142) (fo:=some (.builtin "int.__mul__")) (ro:=some (.builtin "int.__rmul__")) ok.kin (I ok) (hb ok) (by kernel_rfl) (by kernel_rfl) (by kernel_rfl) (by kernel_rfl) (by kernel_rfl) (hc A E ha ok))
 |iadd=>
  obtain⟨cd,hcd,hm⟩:=any_some (show mro2 (KH w.params) CF=true by kernel_rfl)
  exact fun A E ha ok=>inp_of ok.kin (I ok) hcd (eq_of_beq hm) (by kernel_rfl) (by kernel_rfl) (dispA ok.kin (I ok) (hb ok) (hc A E ha ok))
 |lt=>exact fun A E ha ok=>dispC (op:= .Lt) (hu ha) ok.kin (I ok) (hb ok) (by kernel_rfl) (by kernel_rfl) (hc A E ha ok)
 |gt=>exact fun A E ha ok=>dispC (op:= .Gt) (hu ha) ok.kin (I ok) (hb ok) (by kernel_rfl) (by kernel_rfl) (hc A E ha ok)
 |ge=>exact fun A E ha ok=>dispC (op:= .GtE) (hu ha) ok.kin (I ok) (hb ok) (by kernel_rfl) (by kernel_rfl) (hc A E ha ok)
 |eq=>exact fun A E ha ok=>dispC (op:= .Eq) (hu ha) ok.kin (I ok) (hb ok) (by kernel_rfl) (by kernel_rfl) (hc A E ha ok)
end
noncomputable def fracO:OpH:=fun o xs st=>(opA o).bind fun a=>match xs with
 | [x,y]=>(asF x).bind fun p=>(asQ y).bind fun r=>zj (match isFr y with|true=>(fop a p r).2.1|false=>(fop a p r).1) (some fun K=>(fop a p r).2.2.1∧K (fop a p r).2.2.2 st)
 |_=>none
section
variable {w:World}{d:Nat}{z:Z}{y:Y}{x:SV}{v:Value}
theorem asF_ok{p}(h:asF x=some p):x= .frac p:=by
 induction x using SV.casesOn with
 |frac=>cases h;rfl
 |_=>exact(zu rfl h).elim
noncomputable def isFT(x:SV):Bool:=match x with
 | .frac _=>true
 | .tf _ _=>true
 |_=>false
theorem back_of(h:isFT x=true)(q:VRel y x v){Q:Value→Shared→Prop}{s}(k:Q v s):W.CmpBack Q v s:=by
 induction x using SV.casesOn with
 |frac=>rcases q.inv with⟨_,_,_⟩;exact k
 |tf=>
  obtain rfl:=q.inv
  exact k
 |_=>exact Bool.noConfusion h
theorem OA.ft{o a p r}(h:OA o a):isFT (fop a p r).2.2.2=true:=by cases h<;>rfl
theorem asQ_ok{r}(h:asQ x=some r):x= .frac r∨∃s n,x= .num s n∧r=((n:Int):Rat):=by
 induction x using SV.casesOn with
 |frac=>cases h;exact .inl rfl
 |num s n=>cases h;exact .inr ⟨s,n,rfl,rfl⟩
 |_=>exact(zu rfl h).elim
theorem frac_op{o a p y' u v}{K:KV}(oa:OA o a){R:SV}(hR:isFT R=true)(q1:VRel z.y (.frac p) v)(q2:VRel z.y y' u)(hy:y'.pure=true)(hb:Ok w z→RT (model pw w) z.s.heap u)(f:∀K:SV→Prop,K R→fT w a (.frac p) y' K)(k:K R z.st):OpW w (d+2) K z o [v,u]:=by
 have h:=zM (K:=fun v st=>st=z.st∧v=R) (P1_ok w d) (show zt [.frac p,y']=true from(Bool.and_eq_true _ _).mpr ⟨rfl,(Bool.and_eq_true _ _).mpr ⟨hy,rfl⟩⟩) rfl (f _ ⟨rfl,rfl⟩) (.cons q1 (.cons q2 .nil)) .nil
 rcases q1.inv with⟨g1,g2,_⟩
 exact disp oa (fun ok=>yo (ok.rep.sub _ _ g1) (ok.rep.sub _ _ g2)) hb fun A E ha ok=>wm (h A E ha ok) fun v s p=>by
  cases p with|mk S q k2=>exact back_of (k2.2▸hR) q (.mk S q (k2.2.symm▸k2.1.symm▸k))
theorem fracO_ok:OpOk w (d+2) fracO:=fun o xs t K z vs e k q=>by
 obtain⟨a,e1,e⟩:=zz e
 have oa:=opA_ok e1
 rcases xs with _|⟨x,_|⟨y,_|⟨_,_⟩⟩⟩
 ·exact(zu rfl e).elim
 ·exact(zu rfl e).elim
 ·obtain⟨v,u,rfl,q1,q2⟩:=q.two
  obtain⟨p,e2,e⟩:=zz e
  obtain⟨r,e3,e⟩:=zz e
  obtain⟨e6,e7⟩:=zv e
  cases e7
  have q1:=asF_ok e2▸q1
  rcases asQ_ok e3 with rfl|⟨s,n,rfl,rfl⟩
  ·rcases q2.inv with⟨g1,g2,_⟩
   exact frac_op oa oa.ft q1 q2 rfl (fun ok=>.own (yo (ok.rep.sub _ _ g1) (ok.rep.sub _ _ g2)).type) (fun K kk=>fopF oa e6 k.1 kk) k.2
  ·obtain⟨t,rfl⟩:=q2.inv
   exact frac_op oa oa.ft q1 (.num (s:=true)) rfl (fun _=>.int rfl) (fun K kk=>fopI oa e6 k.1 kk) k.2
 ·exact(zu rfl e).elim
noncomputable def P2(w:World):Prims:=(P1 w).ops fracO
theorem P2_ok(w:World)(d:Nat):Sound w (P2 w) (d+2):=(P1_ok w (d+1)).ops fracO_ok
end
noncomputable def ins(x:Int):List Int→List Int
 | []=> [x]
 |y::r=>if x<y then x::y::r else if x=y then y::r else y::ins x r
noncomputable def posn(x:Int):List Int→Nat
 | []=>0
 |y::r=>if y<x then posn x r+1 else 0
noncomputable def range6:List Int:=[0,1,2,3,4,5]
noncomputable def lays(led:Bool)(xs:List Int)(x:Int):Bool:=
 (decide ((zS led xs).freeSlot x=some (x.toNat,false))) &&decide ((zS led xs).put x.toNat=(zS led (ins x xs),posn x xs)) &&(zS led (ins x xs)).fits (xs.length+1) && !(zS led (ins x xs)).tooFull
noncomputable def sFact(xs:List Int):Bool:=Nat.ble xs.length 4&&(xs.all fun x=>range6.elem x) &&((zS true xs).fits xs.length&&(zS false xs).fits xs.length) &&range6.all fun x=>match xs.elem x with
 |true=>ins x xs==xs
 |false=>Nat.beq (ins x xs).length (xs.length+1) &&(match Nat.ble xs.length 3 with
  |true=>xD.elem (ins x xs) &&(lays true xs x&&lays false xs x)
  |false=>true)
theorem sFacts:xD.all sFact=true:=by decide+kernel
section
variable {xs:List Int}{x:Int}{led:Bool}{ts:List Tok}{t:Tok}
theorem smallL.fact(h:smallL xs):sFact xs=true:=List.all_eq_true.mp sFacts xs h
theorem smallL.six'(h:smallL xs):(xs.all fun x=>range6.elem x)=true:=(zx (zx (zx h.fact).1).1).2
theorem smallL.ins(h:smallL xs)(hx:x∈range6):(match xs.elem x with
 |true=>Mine.ins x xs==xs
 |false=>Nat.beq (Mine.ins x xs).length (xs.length+1) &&(match Nat.ble xs.length 3 with
  |true=>xD.elem (Mine.ins x xs) &&(lays true xs x&&lays false xs x)
  |false=>true))=true:=List.all_eq_true.mp (zx h.fact).2 x hx
theorem smallL.four(h:smallL xs):xs.length≤4:=Nat.le_of_ble_eq_true (zx (zx (zx h.fact).1).1).1
theorem smallL.six(h:smallL xs)(hx:x∈xs):x∈range6:=List.elem_iff.mp (List.all_eq_true.mp h.six' x hx)
theorem smallL.fits(h:smallL xs):∀led,(zS led xs).fits xs.length=true
 |true=>(zx (zx (zx h.fact).1).2).1
 |false=>(zx (zx (zx h.fact).1).2).2
theorem smallL.old(h:smallL xs)(hx:x∈range6)(m:xs.elem x=true):Mine.ins x xs=xs:=by
 have e:=h.ins hx
 rw [m]at e
 exact eq_of_beq e
theorem smallL.new(h:smallL xs)(hx:x∈range6)(m:xs.elem x=false):(Mine.ins x xs).length=xs.length+1∧(xs.length≤3→smallL (Mine.ins x xs)∧∀led,lays led xs x=true):=by
 have e:=h.ins hx
 rw [m]at e
 obtain⟨e1,e2⟩:=zx e
 refine⟨Nat.eq_of_beq_eq_true e1,fun l=> ?_⟩
 rw [Nat.ble_eq_true_of_le l]at e2
 obtain⟨e2,e3⟩:=zx e2
 exact⟨List.elem_iff.mp e2,fun led=>by cases led;exact(zx e3).2;exact(zx e3).1⟩
theorem zV:∀{xs:List Int} {ts:List Tok},ts.length=xs.length→(zc xs ts).length=xs.length
 | [],[],_=>rfl
 |_::_,_::_,h=>congrArg (· +1) (zV (Nat.succ.inj h))
theorem y3:∀{xs:List Int} {ts:List Tok},ts.length=xs.length→(zc xs ts).map (·.1)=xs
 | [],[],_=>rfl
 |x::_,_::_,h=>congrArg (x:: ·) (y3 (Nat.succ.inj h))
theorem xl{e:Int×Value}(h:e∈zc xs ts):∃t,e=(e.1,.int e.1 t):=by
 induction xs generalizing ts with
 |nil=>exact(List.not_mem_nil h).elim
 |cons x xs ih=>
  cases ts with
  |nil=>exact(List.not_mem_nil h).elim
  |cons t ts=>exact(List.mem_cons.mp h).elim (fun q=>⟨t,q▸rfl⟩) ih
theorem key_mem{e:Int×Value}(ht:ts.length=xs.length)(h:e∈zc xs ts):e.1∈xs:=y3 ht▸List.mem_map_of_mem h
theorem setEs_ins:∀{xs:List Int} {ts:List Tok},ts.length=xs.length→xs.elem x=false→∃ts',ts'.length=(ins x xs).length∧zc (ins x xs) ts'=(zc xs ts).take (posn x xs)++(x,.int x t)::(zc xs ts).drop (posn x xs)∧posn x xs≤xs.length
 | [],[],_,_=>⟨[t],rfl,rfl,Nat.le_refl _⟩
 |y::xs,u::ts,h,hn=>by
  unfold ins posn
  by_cases h1:x<y
  ·rw [if_pos h1,if_neg (Int.not_lt.mpr (Int.le_of_lt h1))]
   exact⟨t::u::ts,congrArg (· +1) h,rfl,Nat.zero_le _⟩
  ·have h2:x≠y:=fun e=>Bool.noConfusion (hn.symm.trans (List.elem_iff.mpr (e▸ .head _)))
   rw [if_neg h1,if_neg h2,if_pos (Int.lt_iff_le_and_ne.mpr ⟨Int.not_lt.mp h1,h2.symm⟩)]
   obtain⟨ts',a,b,c⟩:=setEs_ins (xs:=xs) (ts:=ts) (Nat.succ.inj h) (Bool.eq_false_iff.mpr fun q=>Bool.noConfusion (hn.symm.trans (List.elem_iff.mpr (.tail _ (List.elem_iff.mp q)))))
   exact⟨u::ts',congrArg (· +1) a,congrArg ((y,Value.int y u):: ·) b,Nat.succ_le_succ c⟩
theorem insertAt_list{α:Type}(l:List α)(p:Nat)(x:α)(hp:p≤l.length):SetTable.insertAt l.toArray p x=(l.take p++x::l.drop p).toArray:=by
 unfold SetTable.insertAt
 apply Array.toList_inj.mp
 simp [List.take_of_length_le]
theorem layNew_small(h:smallL xs)(ht:ts.length=xs.length)(hx:x∈range6)(hn:xs.elem x=false)(hl:xs.length≤3):
  ∃ts',ts'.length=(ins x xs).length∧layNew (zS led xs) (zc xs ts).toArray x (.int x t)=((zc (ins x xs) ts').toArray,zS led (ins x xs),false,false)∧(zS led (ins x xs)).tooFull=false:=by
 obtain⟨n1,n2⟩:=h.new hx hn
 obtain⟨hL,d⟩:=zx ((n2 hl).2 led)
 obtain⟨hL,c⟩:=zx hL
 obtain⟨a,b⟩:=zx hL
 obtain⟨ts',e1,e2,e3⟩:=setEs_ins (t:=t) ht hn
 refine⟨ts',e1,?_,Bool.not_eq_true' _▸d⟩
 unfold layNew
 rw [of_decide_eq_true a]
 dsimp only
 rw [of_decide_eq_true b]
 dsimp only
 rw [insertAt_list _ _ _ (zV ht▸e3),←e2]
 rw [show(zc (ins x xs) ts').toArray.size=xs.length+1 from(zV e1).trans n1]
 unfold SetTable.orStandIn
 rw [c];rfl
theorem hash6:(range6.all fun x=>decide (hashInt x=x))=true:=by decide+kernel
theorem yB(h:x∈range6):hashInt x=x:=of_decide_eq_true (List.all_eq_true.mp hash6 x h)
end
noncomputable abbrev setO(led:Bool)(xs:List Int)(ts:List Tok)(ep:Nat):Obj:={cls:= .type "set",dict:=none,data:= .set (zc xs ts).toArray ep (zS led xs)}
section
variable {w:World}{A:Around}{E:Value→Shared→Prop}{s:Shared}{xs:List Int}{ts:List Tok}{x:Int}{t:Tok}{led:Bool}{a:Addr}{o:Obj}{ep:Nat}
theorem yM{led xs o}(h:SetObj led xs o):smallL xs∧∃ts ep,ts.length=xs.length∧o=setO led xs ts ep:=h
theorem yy(h:smallL xs)(ht:ts.length=xs.length):(zS led xs).fits (zc xs ts).toArray.size=true:=(congrArg _ (zV ht)).trans (h.fits led)
theorem yc{n:Nat}(hn:4≤n)(h:smallL xs)(ht:ts.length=xs.length):(zc xs ts).toArray.size≤n:=Nat.le_trans (Nat.le_of_eq (zV ht)) (Nat.le_trans h.four hn)
theorem elems_small(h:smallL xs)(ht:ts.length=xs.length):ElemsOf (intKind pw w) (zc xs ts):=fun e he=>by
 obtain⟨t,q⟩:=xl he
 have k:=yB (h.six (key_mem ht he))
 rw [q]
 exact⟨⟨e.1,intKind_is _ _ _ _,k.symm⟩,rfl⟩
theorem find_small(ht:ts.length=xs.length)(x:Int):((zc xs ts).findIdx? fun e=>(intKind pw w).is x e.2).isSome=xs.elem x:=by
 rw [List.findIdx?_isSome,Bool.eq_iff_iff,List.any_eq_true]
 refine⟨fun⟨e,he,hp⟩=> ?_,fun hx=> ?_⟩
 ·obtain⟨t,q⟩:=xl he
  rw [q]at hp
  exact List.elem_iff.mpr ((intKind pw w).inj _ _ _ hp (intKind_is _ _ _ _)▸key_mem ht he)
 ·obtain⟨e,he,rfl⟩:=List.mem_map.mp (y3 ht▸List.elem_iff.mp hx)
  obtain⟨t,q⟩:=xl he
  refine⟨e,he,?_⟩
  rw [q];exact intKind_is _ _ _ _
theorem ww{Q:Option Nat→Shared→Prop}(ho:s.heap.get? a=some o)(hs:SetObj led xs o)(hx:x∈range6)(h:∀r:Option Nat,r.isSome=xs.elem x→Q r s):wpAny (model pw w) A (setFind a (.int x t) x) Q E s:=by
 obtain⟨hS,ts,ep,ht,rfl⟩:=yM hs
 have:=wpAny_setFind_of (knd:=intKind pw w) (A:=A) (E:=E) (s:=s) (a:=a) (S:=fun k=>xs.elem k) (n:=xs.length) (k:=x) (x:= .int x t) (Q:=Q) (intKind_is _ _ _ _) rfl
  ⟨_,_,ep,zS led xs,ho,⟨rfl,rfl,rfl⟩,rfl,elems_small hS ht,fun k=>by show xs.elem k=true↔_;rw [←find_small (w:=w) ht k,List.findIdx?_isSome,List.any_eq_true],Nat.lt_of_le_of_lt (yc (by decide) hS ht) (show 4<scanBound by decide),yy hS ht,zV ht⟩ h
 rw [show(intKind pw w).hash x=x from yB hx]at this
 exact this
theorem xW{Q:Bool→Shared→Prop}(ho:s.heap.get? a=some o)(hs:SetObj led xs o)(hx:x∈range6)(hl:xs.length≤3)
  (h:∀h' o',h'.get? a=some o'→SetObj led (ins x xs) o'→Heap.SameBut a s.heap h'→∀b,Q b {s with heap:=h'}):wpAny (model pw w) A (setAddHashed a (.int x t) x) Q E s:=by
 obtain⟨hS,ts,ep,ht,rfl⟩:=yM hs
 have hf:=yy (led:=led) hS ht
 have hel:=elems_small (w:=w) hS ht
 have fin:=find_small (w:=w) ht x
 refine wpAny_holding (wpAny_bind (wpAny_setState_of ho rfl hf ?_))
 have hsc:byScan (.int x t) (zc xs ts).toArray=true:=byScan_of (knd:=intKind pw w) rfl (Nat.lt_of_le_of_lt (yc (by decide) hS ht) (show 4<scanBound by decide)) hel
 dsimp only
 rw [if_pos hsc]
 refine wpAny_bind (m:=setAddByScan a (.int x t) x (zc xs ts).toArray (zS led xs)) (wpAny_bind (wpAny_rule (wpAny_bind ?_)))
 have scan:∀{Q:ScanMet→Shared→Prop},Q (match(zc xs ts).findIdx? (fun e=>(intKind pw w).is x e.2)with|some j=>.found (0+j)|none=>.absent) s→wpAny (model pw w) A (setScan a (.int x t) x true (zc xs ts).toArray) Q E s:=fun{Q} hq=>by
  have:=wpAny_setScan_of (knd:=intKind pw w) (A:=A) (E:=E) (s:=s) (a:=a) (x:= .int x t) (k:=x) (adding:=true) (Q:=Q) (intKind_is _ _ _ _) ho rfl hf hel hq
  rw [show(intKind pw w).hash x=x from yB hx]at this
  exact this
 refine scan ?_
 generalize (zc xs ts).findIdx? (fun e=>(intKind pw w).is x e.2)=r at fin
 cases r with
 |some j=>
  have e:=hS.old hx fin.symm
  exact wpAny_pure (wpAny_pure (h s.heap _ ho (e.symm▸hs) (Heap.SameBut.refl a s.heap) _))
 |none=>
  obtain⟨ts',e1,e2,e3⟩:=layNew_small (led:=led) (t:=t) hS ht hx fin.symm hl
  have hS':=((hS.new hx fin.symm).2 hl).1
  dsimp only
  rw [e2]
  refine wpAny_bind (m:=pure ()) (wpAny_pure ?_)
  refine wpAny_bind (m:=hashByValue 8 (.int x t)) ?_
  rw [hashByValue_scannable 8 (x:= .int x t) rfl]
  refine wpAny_pure ?_
  refine wpAny_bind (m:=storeSet a (zc (ins x xs) ts').toArray (zS led (ins x xs))) (wpAny_storeSet_of ho rfl ?_ (yc (by rw [sizeLine_eq];decide) hS' e1))
  show wpAny _ _ (if(!false&&(zS led (ins x xs)).tooFull)=true then _ else _) _ _ _
  rw [e3]
  exact wpAny_pure (wpAny_pure (h (s.heap.update a (Obj.putSet (zc (ins x xs) ts').toArray (zS led (ins x xs)))) _ (Heap.get?_update_self _ ho (by rfl)) ⟨hS',ts',ep+1,e1,rfl⟩ (Heap.SameBut.update ..) _))
theorem yI{Q:Value→Shared→Prop}(h:∀o,SetObj (!w.params.followText "set-order") [] o→o.isFreed=false→Q (.ref s.heap.objs.size) {s with heap:=s.heap.push o}):wpAny (model pw w) A (newSet (.type "set")) Q E s:=by
 unfold newSet setsByText
 refine wpAny_bind (wpAny_bind (wpAny_askSetting (wpAny_pure ?_)))
 exact wpAny_bind (m:=alloc _) (wpAny_alloc (wpAny_pure (h _ ⟨show _∈xD by decide+kernel,[],0,rfl,rfl⟩ rfl)))
end
theorem wX{α:Type}:∀(l:List α) (i:Nat) (x:α),l[i]? =some x→(x::l.eraseIdx i).Perm l
 | [],_,_,h=>by cases h
 |y::r,0,x,h=>by cases h;exact .refl _
 |y::r,i+1,x,h=>(List.Perm.swap y x _).trans (List.Perm.cons y (wX r i x h))
theorem pick_perm{α:Type}(next:Nat→Nat):∀(fuel k:Nat) (left:List α) (out:Array α),left.length≤fuel→(pickOrder.go next fuel k left out).toList.Perm (out.toList++left)
 |0,k,left,out,h=>by
  obtain rfl:=List.length_eq_zero_iff.mp (Nat.le_zero.mp h)
  rw [List.append_nil];exact .refl _
 |fuel+1,k,left,out,h=>by
  unfold pickOrder.go
  generalize e:left[next k%left.length]? =r
  cases r with
  |none=>
   cases left with
   |nil=>rw [List.append_nil]
   |cons x r=>exact absurd (List.getElem?_eq_none_iff.mp e) (Nat.not_le.mpr (Nat.mod_lt _ (Nat.succ_pos _)))
  |some x=>
   refine(pick_perm next fuel (k+1) _ (out.push x) (Nat.le_of_succ_le_succ (Nat.le_trans (Nat.le_of_eq (wX left _ x e).length_eq) h))).trans ?_
   rw [Array.toList_push,List.append_assoc]
   exact(wX left _ x e).append_left _
noncomputable abbrev zy(w:World):Bool:=w.params.followText "set-order"
noncomputable def ordS(w:World)(a:Addr)(ep:Nat)(es:List (Int×Value)):List (Int×Value):=match zy w with
 |true=>(pickOrder (w.params.setOrder a ep) es.toArray).toList
 |false=>es
theorem ordS_perm(w:World)(a:Addr)(ep:Nat)(es:List (Int×Value)):(ordS w a ep es).Perm es:=by
 unfold ordS
 cases zy w with
 |true=>exact pick_perm (w.params.setOrder a ep) es.toArray.size 0 es.toArray.toList #[] (Nat.le_refl _)
 |false=>exact .refl _
noncomputable abbrev plc(xs:List Int):Array Nat:=(xs.map Int.toNat).toArray
noncomputable def bFact(xs:List Int):Bool:=(List.range xs.length).all fun i=>Nat.beq (SetTable.below (plc xs) (((xs[i]?).getD 0).toNat+1)) (i+1)
theorem bFacts:xD.all bFact=true:=by decide+kernel
theorem bFact0:(xD.all fun xs=>Nat.beq (SetTable.below (plc xs) 0) 0)=true:=by decide+kernel
theorem entry_set_iter:entryFor table "set.__iter__"=some Builtin.«frozenset.__iter__»:=entryFor_alias (id':="frozenset.__iter__") (by kernel_rfl) rfl (by decide+kernel) (by kernel_rfl)
theorem yJ:Slot "set_iterator" "__next__" "set_iterator.__next__":=
 .of (owner:="set_iterator") (n:="__next__") (by rw [typeLookup_type,builtinLookup_eq_fast];kernel_rfl) (by decide+kernel) (by decide+kernel) (by decide+kernel) (by first|exact .inl (by decide+kernel)|exact .inr (by decide+kernel)) (by rw [isSubtype_type];kernel_rfl)
theorem entry_si_next:entryFor table "set_iterator.__next__"=some Builtin.«set_iterator.__next__»:=entryFor_of_tree (by kernel_rfl)
theorem args_si_next(a:Value):argsOk "set_iterator.__next__" ⟨[a],[]⟩:=by unfold argsOk;kernel_rfl
theorem slot_si_iter:Slot "set_iterator" "__iter__" "set_iterator.__iter__":=
 .of (owner:="set_iterator") (n:="__iter__") (by rw [typeLookup_type,builtinLookup_eq_fast];kernel_rfl) (by decide+kernel) (by decide+kernel) (by decide+kernel) (by first|exact .inl (by decide+kernel)|exact .inr (by decide+kernel)) (by rw [isSubtype_type];kernel_rfl)
theorem entry_si_iter:entryFor table "set_iterator.__iter__"=some Builtin.«dict_keyiterator.__iter__»:=entryFor_alias (id':="dict_keyiterator.__iter__") (by kernel_rfl) rfl (by decide+kernel) (by kernel_rfl)
theorem args_si_iter(a:Value):argsOk "set_iterator.__iter__" ⟨[a],[]⟩:=by unfold argsOk;kernel_rfl
noncomputable def SiObj(w:World)(a:Addr)(xs:List Int)(ep i:Nat)(o:Obj):Prop:=o.cls= .type "set_iterator"∧∃sl:Nat,o.data= .fields #[rawInt sl,rawInt i,.ref a,rawInt xs.length,rawInt ep]∧(zy w=false→SetTable.below (plc xs) sl=i)
section
variable {w:World}{A:Around}{E:Value→Shared→Prop}{s:Shared}{a I:Addr}{xs:List Int}{ts:List Tok}{ep i:Nat}{o:Obj}
noncomputable abbrev setOw(w:World)(xs:List Int)(ts:List Tok)(ep:Nat):Obj:=setO (!zy w) xs ts ep
theorem wx{Q:Array (Int×Value)→Shared→Prop}(hS:smallL xs)(ht:ts.length=xs.length)(ho:s.heap.get? a=some (setOw w xs ts ep))
  (h:Q (ordS w a ep (zc xs ts)).toArray s):wpAny (model pw w) A (setWalk a) Q E s:=by
 refine wpAny_bind (wpAny_setState_of ho rfl (yy hS ht) (wpAny_bind (m:=setsByText) (wpAny_bind (wpAny_askSetting (wpAny_pure ?_)))))
 unfold ordS at h
 show wpAny _ _ (if zy w=true then _ else _) _ _ _
 generalize zy w=b at h
 cases b with
 |true=>exact wpAny_bind (wpAny_askSetting (wpAny_pure h))
 |false=>exact wpAny_bind (m:=pure ()) (wpAny_pure (wpAny_pure h))
theorem plc_get(ht:ts.length=xs.length)(i:Nat):(zS (!false) xs).place[i]? =((zc xs ts)[i]?).map fun e=>e.1.toNat:=by
 rw [show(zS (!false) xs).place=((zc xs ts).map fun e=>e.1.toNat).toArray from congrArg List.toArray ((congrArg (List.map Int.toNat) (y3 ht)).symm.trans List.map_map),List.getElem?_toArray,List.getElem?_map]
theorem setNext_small{Q:Option (Value×Nat)→Shared→Prop}{sl:Nat}(hS:smallL xs)(ht:ts.length=xs.length)(ho:s.heap.get? a=some (setOw w xs ts ep))(hb:zy w=false→SetTable.below (plc xs) sl=i)
  (h:∀r,r=(ordS w a ep (zc xs ts))[i]? →Q (r.map fun e=>(e.2,match zy w with|true=>sl|false=>e.1.toNat+1)) s):wpAny (model pw w) A (setNext a sl i ep) Q E s:=by
 refine wpAny_bind (wpAny_setState_of ho rfl (yy hS ht) (wpAny_bind (m:=setsByText) (wpAny_bind (wpAny_askSetting (wpAny_pure ?_)))))
 have wk:=wx (w:=w) (A:=A) (E:=E) hS ht ho (Q:=fun r s'=>Q ((r[i]?).map fun e=>(e.2,sl)) s')
 unfold ordS at h wk
 show wpAny _ _ (if zy w=true then _ else _) _ _ _
 generalize hq:zy w=b at h hb wk
 cases b with
 |true=>
  show wpAny _ _ (if(ep !=ep)=true then _ else _) _ _ _
  rw [bne_self_eq_false]
  exact wpAny_bind (m:=setWalk a) (wpAny_mono (wk (List.getElem?_toArray .. ▸h _ rfl)) (fun _ _ q=>wpAny_pure q) fun _ _ e=>e)
 |false=>
  obtain rfl:=hb rfl
  have e:Q (((zc xs ts)[SetTable.below (plc xs) sl]?).map fun e=>(e.2,e.1.toNat+1)) s:=h _ rfl
  refine wpAny_bind (m:=pure ()) (wpAny_pure (wpAny_pure ?_))
  rw [List.getElem?_toArray,plc_get ht]
  change Q (((zc xs ts)[SetTable.below (zS (!false) xs).place sl]?).map fun e=>(e.2,e.1.toNat+1)) s at e
  generalize (zc xs ts)[SetTable.below (zS (!false) xs).place sl]? =r at e⊢
  cases r<;>exact e
theorem zG{α:Type}{M:Model}{c:Bool}{t e:Sem α}{Q:α→Shared→Prop}(h:c=false)(k:wpAny M A e Q E s):wpAny M A (if c=true then t else e) Q E s:=by rw [h];exact k
theorem SiObj.at(ho:s.heap.get? I=some o)(h:SiObj w a xs ep i o):s.TypeIs (.ref I) "set_iterator":=⟨o,ho,h.1⟩
theorem pyIter_set{Q:Value→Shared→Prop}(hS:smallL xs)(ht:ts.length=xs.length)(ho:s.heap.get? a=some (setOw w xs ts ep))
  (h:∀o,SiObj w a xs ep 0 o→o.isFreed=false→Q (.ref s.heap.objs.size) {s with heap:=s.heap.push o}):wpAny (model pw w) A (pyIter (.ref a)) Q E s:=by
 have hT:s.TypeIs (.ref a) "set":=⟨_,ho,rfl⟩
 have hf:=yy (led:= !zy w) hS ht
 refine wpAny_pyIter_slot hT PySem.F.slot_set_iter (wpAny_call_entry PySem.F.slot_set_iter hT entry_set_iter ?_ (PySem.F.args_set_iter_1 _))
 refine wpAny_bind (m:=Builtin.Frozenset.slot0 "__iter__" ⟨[.ref a],[]⟩) (wpAny_of_eq (a:=a) (by rfl) ?_)
 refine wpAny_bind (m:=Builtin.Frozenset.sizeOf a) (wpAny_bind (wpAny_setEntries_of ho rfl hf (wpAny_pure ?_)))
 refine wpAny_bind (m:=setDrawn a) (wpAny_bind (wpAny_setState_of ho rfl hf (wpAny_bind (m:=setsByText) (wpAny_bind (wpAny_askSetting (wpAny_pure (wpAny_pure ?_)))))))
 refine zG (Bool.and_false (!zy w)) ?_
 refine wpAny_bind (m:=pure _) (wpAny_pure (wpAny_bind (m:=setEpoch a) (wpAny_setEpoch_of ho rfl hf (wpAny_bind (m:=newFields _ _) ?_))))
 refine wpAny_newObj_type (wpAny_pure ⟨_,rfl,"set_iterator",_,⟨_,Heap.get?_push_size _ rfl,rfl⟩,yJ.lookup,?_⟩) (by size_fits)
 refine h _ ⟨rfl,0,?_,fun _=>Nat.eq_of_beq_eq_true (List.all_eq_true.mp bFact0 xs hS)⟩ rfl
 rw [show(zc xs ts).toArray.size=xs.length from zV ht]
 rfl
end
set_option tactic.hygienic true
section
variable {w:World}{A:Around}{E:Value→Shared→Prop}{s:Shared}{a I:Addr}{xs:List Int}{ts:List Tok}{ep i:Nat}{o:Obj}
theorem below_next{e:Int×Value}(hS:smallL xs)(ht:ts.length=xs.length)(hq:zy w=false)(hr:some e=(ordS w a ep (zc xs ts))[i]?):SetTable.below (plc xs) (e.1.toNat+1)=i+1:=by
 unfold ordS at hr
 rw [hq]at hr
 have h:=(congrArg (·[i]?) (y3 ht)).symm.trans (List.getElem?_map.trans (congrArg (Option.map (·.1)) hr.symm))
 have b:=List.all_eq_true.mp (List.all_eq_true.mp bFacts xs hS) i (List.mem_range.mpr (List.getElem?_eq_some_iff.mp h).1)
 rw [h]at b
 exact Nat.eq_of_beq_eq_true b
theorem pyNext_set{Q:Option Value→Shared→Prop}(hh:A.handled=none)(hS:smallL xs)(ht:ts.length=xs.length)(hI:s.heap.get? I=some o)(hi:SiObj w a xs ep i o)(ho:s.heap.get? a=some (setOw w xs ts ep))
  (hQ:∀r s' o',r=(ordS w a ep (zc xs ts))[i]? →(∀b o,b≠I→s.heap.get? b=some o→s'.heap.get? b=some o)→s'.os=s.os→s'.gens=s.gens→(∀e,r=some e→s'.heap.get? I=some o'∧SiObj w a xs ep (i+1) o')→Q (r.map (·.2)) s'):wpAny (model pw w) A (pyNext (.ref I)) Q E s:=by
 have hT:=hi.at hI
 have hf:=yy (led:= !zy w) hS ht
 obtain⟨hc,sl,hd,hb⟩:=hi
 refine wpAny_bind (wpAny_attempt (wpAny_callSpecial?_slot (name:="__next__") hT yJ (wpAny_call_entry yJ hT entry_si_next ?_ (args_si_next _))))
 refine wpAny_bind (m:=slotArgs "__next__" 0 ⟨[.ref I],[]⟩) (wpAny_of_eq (a:=(.ref I,[])) (by rfl) (wpAny_bind (wpAny_fieldsOf hI hd ?_)))
 refine wpAny_bind (m:=setEntries a) (wpAny_setEntries_of ho rfl hf (zG (c:=((zc xs ts).toArray.size:Int) !=xs.length) (by rw [show(zc xs ts).toArray.size=xs.length from zV ht,bne_self_eq_false]) ?_))
 refine wpAny_bind (m:=setNext a sl i ep) (setNext_small hS ht ho hb fun r hr=> ?_)
 cases r with
 |none=>
  refine wpAny_bind (m:=setField (.ref I) 2 .none) (wpAny_setField hI hd (show 2<5 by decide) ?_)
  refine wpAny_bind (m:=newExc (.type "StopIteration") []) (wpAny_bind (m:=newTuple []) (wpAny_newObj_type ?_ (by size_fits)))
  refine wpAny_bind (m:=firstArgMember _ _) (wpAny_of_eq (a:=Value.none) (by rfl) ?_)
  refine wpAny_newObj_type ?_ (by size_fits)
  refine wpAny_bind (m:=handled) (wpAny_handled ?_)
  rw [show A.in1.handled=none from hh]
  refine wpAny_bind (m:=pure _) (wpAny_pure (wpAny_throw ?_))
  refine wpAny_bind (wpAny_isInstance (T:="StopIteration") (b:=true) ⟨_,Heap.get?_push_size _ rfl,rfl⟩ isSubtype_stop ?_)
  exact wpAny_pure (hQ none _ o hr (fun b o' n e=>(((Heap.SameBut.update ..).extBut.push _).push _) b o' n e) rfl rfl fun _ q=>(nomatch q))
 |some e=>
  have h1:SetTable.below (plc xs) sl=SetTable.below (plc xs) sl:=rfl
  refine wpAny_bind (m:=setField (.ref I) 0 (rawInt _)) (wpAny_setField hI hd (show 0<5 by decide) ?_)
  have ho1:=Heap.get?_update_self (h:=s.heap) (Obj.mapFields (·.setIfInBounds 0 (rawInt ((match zy w with|true=>sl|false=>e.1.toNat+1:Nat):Int)))) hI (Obj.isFreed_of_fields (Obj.data_mapFields hd _))
  refine wpAny_bind (m:=setField (.ref I) 1 (rawInt _)) (wpAny_setField ho1 (Obj.data_mapFields hd _) (show 1<5 by decide) ?_)
  have ho2:=Heap.get?_update_self (Obj.mapFields (·.setIfInBounds 1 (rawInt ((i:Int)+1)))) ho1 (Obj.isFreed_of_fields (Obj.data_mapFields (Obj.data_mapFields hd _) _))
  refine wpAny_pure ⟨_,rfl,wpAny_pure (hQ (some e) _ _ hr (fun b o' n q=>(((Heap.SameBut.update ..).trans (Heap.SameBut.update ..)).2 b n).trans q) rfl rfl fun _ _=>⟨ho2,(Obj.cls_mapFields ..).trans ((Obj.cls_mapFields ..).trans hc),(match zy w with|true=>sl|false=>e.1.toNat+1),?_,?_⟩)⟩
  ·rw [Obj.data_mapFields (Obj.data_mapFields hd _)];rfl
  ·exact fun hq=>by rw [hq];exact below_next hS ht hq hr
noncomputable def wq(x:SV):Option (Bool×List Int):=match x with
 | .vset led xs=>some (led,xs)
 |_=>none
theorem yT{x p}(h:wq x=some p):x= .vset p.1 p.2:=by
 induction x using SV.casesOn with
 |vset=>cases h;rfl
 |_=>exact(zu rfl h).elim
noncomputable def allN:Nat→(List Int→Prop)→Prop
 |0,f=>f []
 |n+1,f=>∀a,allN n fun r=>f (a::r)
theorem allN_of:∀{n:Nat} {f:List Int→Prop},allN n f→∀l,l.length=n→f l
 |0,_,h,l,e=>List.eq_nil_of_length_eq_zero e▸h
 |n+1,_,h,[],e=>nomatch e
 |n+1,_,h,a::r,e=>allN_of (h a) r (Nat.succ.inj e)
theorem all_N{f:List Int→Prop}(h:∀l,f l):∀n,allN n f
 |0=>h []
 |n+1=>fun a=>all_N (fun r=>h (a::r)) n
noncomputable def iterS(w:World):IterH:=fun x st=>(wq x).bind fun p=>some fun K=>p.1= !zy w∧allN p.2.length fun ys=>ys.Perm p.2→K (.iset ys) st
theorem iterS_ok{d:Nat}:OneOk w d (iterS w):=fun x t K z v A E e k q ha ok=>by
 obtain⟨⟨led,xs⟩,e1,e⟩:=zz e
 cases e
 obtain⟨rfl,k⟩:=k
 rcases(yT e1▸q).inv with⟨g,hs⟩
 obtain⟨hS,ts,ep,ht,rfl⟩:=yM (led:= !zy w) (xs:=xs) hs
 rename_i a
 have hp:((ordS w a ep (zc xs ts)).map (·.1)).Perm xs:=(congrArg _ (y3 ht)).mp ((ordS_perm w a ep (zc xs ts)).map (·.1))
 refine pyIter_set hS ht (ok.rep.sub _ _ g) fun o0 h0 hf=>.mk (T:="set_iterator") (Ob:=SiObj w a xs ep) hf h0 ⟨fun k o h=>h.1,by decide,fun k o s A E Q h hb hQ=> ?_,fun k o y z1 A E Q ha h hb ok1 le hi hQ=> ?_⟩ (allN_of k _ hp.length_eq hp)
 ·exact wpAny_pyIter_slot (hb.at h) slot_si_iter (wpAny_call_entry slot_si_iter (hb.at h) entry_si_iter (show wpAny _ _ (ret (.ref _)) _ _ s from wpAny_pure ⟨_,rfl,"set_iterator",_,hb.at h,yJ.lookup,hQ⟩) (args_si_iter _))
 ·refine pyNext_set ha.1 hS ht h hb (ok1.rep.sub _ _ (le.1 _ _ g)) fun r s' o' hr hk h1 h2 h3=>hQ _ s' o' hk h1 h2 ?_
  have hy:y=r.map fun e=>SV.sint e.1:=by
   rw [←Option.some.inj hi,hr,List.getElem?_map,Option.map_map];rfl
  cases r with
  |none=>rw [hy];rfl
  |some e=>
   obtain⟨t,q⟩:=xl ((ordS_perm w a ep (zc xs ts)).mem_iff.mp (List.mem_of_getElem? hr.symm))
   rw [hy]
   exact⟨_,rfl,(h3 e rfl).1,(h3 e rfl).2,show VRel z1.y (.sint e.1) e.2 from q▸ .num⟩
end
set_option tactic.hygienic false
section
variable {w:World}{A:Around}{E:Value→Shared→Prop}{s:Shared}
theorem code_set_neww(a:Value){Q₁:Value→Shared→Prop}
  (h:∀o,SetObj (!zy w) [] o→o.isFreed=false→Q₁ (.ref s.heap.objs.size) {s with heap:=s.heap.push o}):
  codeAny (model pw w) A (.call (.builtin "set.__new__") ⟨[.type "set",a],[]⟩) (wants Q₁ E) s:=by
 refine codeAny_of_tree (wpAny_bind (m:=checkBuiltinCall "set.__new__" ⟨[.type "set",a],[]⟩) (wpAny_of_eq (F.newCall_set_1 a) (wpAny_pure ⟨plainId_quiet F.plain_set_new _,codeAny_builtin F.entry_set_new ?_⟩)))
 rw [Around.under_plainId F.plain_set_new _]
 refine wpAny_bind (m:=Builtin.Frozenset.newClass _ _) (wpAny_bind (m:=isType (.type "set")) (wpAny_of_eq (a:=true) (by rfl) (wpAny_bind (m:=isSubtype (.type "set") (.type "set")) (wpAny_of_eq (a:=true) sub_set_self (wpAny_pure ?_)))))
 exact wpAny_bind (m:=newSet (.type "set")) (yI fun o ho hf=>wpAny_pure (h o ho hf))
theorem call_set_gen{v:Value}{Q:Value→Shared→Prop}
  (h:∀(A':Around) (E':Value→Shared→Prop) o,A'=A.in1.in1→SetObj (!zy w) [] o→o.isFreed=false→wpAny (model pw w) A' (Builtin.Frozenset.updateFrom "set.__init__" s.heap.objs.size v) (fun _ s2=>Q (.ref s.heap.objs.size) s2) E' {s with heap:=s.heap.push o}):
  wpAny (model pw w) A (call (.type "set") [v]) Q E s:=by
 obtain⟨c,tl,hmro⟩:=F.called_set.mro
 refine wpAny_call (codeAny_of_tree (wpAny_pure ⟨Code.quiet_builtin _ (by decide+kernel),codeAny_builtin F.entry_type_call ?_⟩))
 rw [Around.under_plain (weight_type_call_type "set" [v] []) rfl]
 delta Builtin.«type.__call__»
 refine zG ?h1 ?_
 exact F.called_set.notType
 refine zG ?h2 ?_
 exact F.called_set.canCreate
 refine wpAny_bind (m:=checkTypeCall "set" ⟨[v],[]⟩) (wpAny_of_eq (F.typeCall_set_1 v) ?_)
 refine wpAny_bind (m:=mroOf (.type "set")) (wpAny_of_eq hmro ?_)
 refine wpAny_bind (m:=Bind.madeBy (.type "set")) (wpAny_of_eq F.called_set.made ?_)
 refine wpAny_bind (m:=pure (Value.builtin "set.__new__")) (wpAny_pure ?_)
 refine wpAny_bind (m:=holding [.builtin "set.__new__"] (call (.builtin "set.__new__") [.type "set",v] [])) (wpAny_holding (wpAny_call (codeAny_mono (code_set_neww v (E:=E) (Q₁:=fun obj s₁=>∃o,SetObj (!zy w) [] o∧o.isFreed=false∧obj= .ref s.heap.objs.size∧s₁={s with heap:=s.heap.push o}) fun o ho hf=>⟨o,ho,hf,rfl,rfl⟩) fun r s₁ hr=> ?_)))
 cases r with
 |error e=>exact hr
 |ok fl=>
  cases fl with
  |ret obj=>
   obtain⟨o,ho,hf,rfl,rfl⟩:=hr
   have hS:(s.heap.push o).get? s.heap.objs.size=some o:=Heap.get?_push_size _ hf
   have hT:Shared.TypeIs {s with heap:=s.heap.push o} (.ref s.heap.objs.size) "set":=⟨_,hS,by obtain⟨_,_,_,_,rfl⟩:=ho;rfl⟩
   refine wpAny_bind (m:=isInstance (.ref s.heap.objs.size) (.type "set")) (wpAny_isInstance hT F.called_set.sub ?_)
   refine wpAny_bind (m:=holding [.ref s.heap.objs.size] (callSpecial? (.ref s.heap.objs.size) "__init__" [v] [])) (wpAny_holding (wpAny_callSpecial?_slot hT F.called_set.init (wpAny_call (codeAny_call_builtin F.called_set.init.plain F.entry_set_init (check_set_init_1 hT ?_)))))
   refine wpAny_bind (m:=noKeywords "set" _) (wpAny_pure ?_)
   refine wpAny_bind (m:=typeNameOfCut 200 (.ref s.heap.objs.size)) (wpAny_bind (m:=shownTypeOf _) (wpAny_bind (m:=typeOf _) (wpAny_typeOf hT (wpAny_pure ?_))))
   refine wpAny_of_eq (a:="set") (by rfl) ?_
   refine wpAny_bind (m:=checkCount "set" 0 1 1) (wpAny_pure ?_)
   refine wpAny_bind (m:=Builtin.Frozenset.addrOf (.ref s.heap.objs.size)) (wpAny_of_eq (a:=s.heap.objs.size) (by rfl) ?_)
   have hu:∀{A E} {Q:Bool→Shared→Prop},Q false {s with heap:=s.heap.push o}→wpAny (model pw w) A (setUsed s.heap.objs.size) Q E {s with heap:=s.heap.push o}:=fun h=>by
    obtain⟨hS0,ts,ep,ht,rfl⟩:=yM ho
    exact wpAny_bind (wpAny_setState_of hS rfl (yy hS0 ht) (wpAny_pure h))
   refine wpAny_bind (m:=setUsed s.heap.objs.size) (hu ?_)
   refine wpAny_bind (m:=Builtin.Frozenset.updateFrom "set.__init__" s.heap.objs.size v) (wpAny_mono (h A.in1.in1 _ o rfl ho hf) (fun _ s2 q=>wpAny_pure (zG (c:=Value.none !=Value.none) (bne_self_eq_false _) (wpAny_pure q))) fun _ _ e=>e)
  |_=>exact hr.elim
end
section
variable {y y':Y}{x:SV}{v v0:Value}{xs:List SV}{vs us:List Value}{z z':Z}
noncomputable abbrev Y.with(y y':Y):Y:=⟨y'.G,y.ρ,y.n⟩
theorem VRel.down(hr:∀i,i<y.n→y'.ρ i=y.ρ i)(q0:VRel y x v0):∀{v},VRel y' x v→VRel (y.with y') x v:=by
 induction q0 with
 |ref h=>exact fun q=>q.inv.2▸hr _ h▸ .ref h
 |obj h e=>exact fun q=>by rcases q.inv with⟨_,g⟩;exact .obj h (hr _ h▸g)
 |tup' e l _ ih=>exact fun q=>by rcases q.inv with⟨g,qs⟩;exact .tup g (.of qs.length fun i x h=>ih i x h (qs.get i x h))
 |vlist' p e l _ ih=>exact fun q=>by rcases q.inv with⟨_,⟨g,qs⟩⟩;exact .vlist p g (.of qs.length fun i x h=>ih i x h (qs.get i x h))
 |vinst' e d n l m _ ih=>exact fun q=>by rcases q.inv with⟨g,h,k,f⟩;exact .vinst g h k (.of f.length (fun i p h=>(f.get i p h).1) fun i p h=>ih i p h (f.get i p h).2)
 |slc e _ _ i1 i2=>exact fun q=>by rcases q.inv with⟨g,a,b⟩;exact .slc g (i1 a) (i2 b)
 |non=>exact fun q=>q.inv▸ .non
 |tf=>exact fun q=>q.inv▸ .tf
 |num=>exact fun q=>q.inv.elim fun _ e=>e▸ .num
 |str=>exact fun q=>q.inv.elim fun _ e=>e▸ .str
 |top=>exact fun q=>q.inv▸ .top
 |frac=>exact fun q=>by rcases q.inv with⟨a,b,c⟩;exact .frac a b c
 |vset=>exact fun q=>by rcases q.inv with⟨a,b⟩;exact .vset a b
 |rng=>exact fun q=>by rcases q.inv with⟨a⟩;exact .rng a
theorem VRels.down(hr:∀i,i<y.n→y'.ρ i=y.ρ i)(q0:VRels y xs us):∀{vs},VRels y' xs vs→VRels (y.with y') xs vs:=by
 induction q0 with
 |nil=>exact fun q=>by cases q;exact .nil
 |cons a _ ih=>exact fun q=>by cases q with|cons b c=>exact .cons (a.down hr b) (ih c)
theorem FRels.down{fs l}(hr:∀i,i<y.n→y'.ρ i=y.ρ i)(q0:FRels y fs l):∀{l'},FRels y' fs l'→FRels (y.with y') fs l':=by
 induction q0 with
 |nil=>exact fun q=>by cases q;exact .nil
 |cons a _ ih=>exact fun q=>by cases q with|cons b c=>exact .cons (a.down hr b) (ih c)
noncomputable def Told(y:Y)(so:SO):Prop:=match so with
 | .list xs=>∃us,VRels y xs us
 | .ns c fs=>∃l,NRel y c fs l
 | .inst fs=>∃l,FRels y fs l
 | .cell x=>∀v,x=some v→∃u,VRel y v u
 | .cellF x _=>∃u,VRel y x u
 | .gen is _=>∀i∈is,i<y.n
theorem ORel.told{so o}(q:ORel y so o):Told y so:=by
 induction so with
 |list=>exact let⟨_,_,_,a⟩:=q;⟨_,a⟩
 |ns=>exact let⟨_,_,a⟩:=q;⟨_,a⟩
 |inst=>exact let⟨_,_,_,_,_,a⟩:=q;⟨_,a⟩
 |cell=>exact let⟨_,_,a⟩:=q;fun v h=>let⟨w,_,b⟩:=a v h;⟨w,b⟩
 |cellF=>exact let⟨_,w,_,b⟩:=q;⟨w,b⟩
 |gen=>exact q.1
theorem ORel.down{so o}(hr:∀i,i<y.n→y'.ρ i=y.ρ i)(q0:Told y so)(q:ORel y' so o):ORel (y.with y') so o:=by
 induction so with
 |list=>exact let⟨vs,k,e,a⟩:=q;⟨vs,k,e,q0.elim fun _ b=>b.down hr a⟩
 |ns=>exact let⟨l,n,a⟩:=q;⟨l,n,q0.elim fun _ b=>⟨fun x sv e=>let⟨u,_,b⟩:=b.sub x sv e;let⟨v,e,a⟩:=a.sub x sv e;⟨v,e,b.down hr a⟩,a.ex.elim .inl fun a=>b.ex.imp id fun b=>b.down hr a⟩⟩
 |cell=>exact let⟨u,e,a⟩:=q;⟨u,e,fun v h=>let⟨w,i,b⟩:=a v h;⟨w,i,(q0 v h).elim fun _ c=>c.down hr b⟩⟩
 |cellF=>exact let⟨e,w,i,b⟩:=q;⟨e,w,i,q0.elim fun _ c=>c.down hr b⟩
 |inst=>exact let⟨es,l,k,e,n,a⟩:=q;⟨es,l,k,e,n,q0.elim fun _ b=>b.down hr a⟩
 |gen is q1=>exact⟨q0,List.map_congr_left (fun i h=>hr i (q0 i h))▸q.2⟩
theorem xT{i j:Nat}(h:j≠i):∀l:List (Nat×SO),List.lookup j (dropL i l)=List.lookup j l
 | []=>rfl
 |(k,x)::r=>by
  unfold dropL
  rw [nbeq,zn]
  by_cases c:i=k
  ·rw [decide_eq_true c,if_neg (c▸h)];exact xT h r
  ·rw [decide_eq_false c]
   exact(zn ..).trans (congrArg _ (xT h r))
theorem push_drop{st:St}{so x:SO}{i:Nat}(hi:i≠st.nx)(h:Has st i so):Has ((st.push x).drop st.nx) i so:=(xT hi _).trans ((zn ..).trans ((if_neg hi).trans h))
theorem Step.same2{zb:Z}(r:Rep z)(S0:Step zb z)(S:Step zb z')(hr:∀i,i<z.y.n→z'.y.ρ i=z.y.ρ i)(h:∀i so,Has z.st i so→Has z'.st i so):Step zb ⟨z'.G,z.ρ,z.st,z'.s⟩:=by
 refine⟨⟨S.rep.sub,fun i so e=> ?_,r.inj,fun b m=>let⟨_,w⟩:=S.rep.tab b m;let⟨_,v⟩:=r.tab b m;w.to w.at' w.gn v.ow⟩,⟨S0.le.nx,S0.le.rho,S.le.ext⟩,fun b o e n=> ?_,S.own,S.gs⟩
 ·obtain⟨o,w⟩:=r.own i so e
  obtain⟨o',w'⟩:=S.rep.own i so (h i so e)
  have e:z'.ρ i=z.ρ i:=hr i w.lt
  exact⟨o',w.lt,e▸w'.gn,e▸w'.hp,ORel.down hr w.rel.told w'.rel⟩
 ·obtain⟨p,_,q⟩:=S.out b o e n
  exact⟨p,(S0.out b o e n).2.1,q⟩
theorem Step.same(r:Rep z)(S:Step z z')(h:∀i so,Has z.st i so→Has z'.st i so):Step z ⟨z'.G,z.ρ,z.st,z'.s⟩:= .same2 r (.refl r) S S.le.rho h
end
noncomputable abbrev insF(acc:List Int)(p:Bool×Int):List Int:=ins p.2 acc
noncomputable def yl(ps:List (Bool×Int)):List Int:=ps.foldl insF []
noncomputable abbrev yY(w:World)(l:List Int):SO:= .gen [] fun _ o=>SetObj (!zy w) l o
section
variable {w:World}{d:Nat}{A:Around}{E:Value→Shared→Prop}{z zb:Z}{x:SV}{v it:Value}{S:Addr}{y:Y}
theorem smallL.le{xs:List Int}{x:Int}(h:smallL xs)(hx:x∈range6):(Mine.ins x xs).length≤xs.length+1:=by
 cases m:xs.elem x with
 |true=>exact(h.old hx m).symm▸Nat.le_succ _
 |false=>exact Nat.le_of_eq (h.new hx m).1
theorem ORel.set{led l o}(h:ORel y (.gen [] fun _ o=>SetObj led l o) o):SetObj led l o:=h.2
theorem St.push_put{st:St}{so so':SO}:(st.push so).put st.nx so'=st.push so':=by
 show St.mk (putL st.nx so' ((st.nx,so)::st.own)) _=_
 unfold putL
 rw [nbeq,decide_eq_true rfl];rfl
theorem y7{st:St}{so:SO}:Has (st.push so) st.nx so:=(zn ..).trans (if_pos rfl)
theorem upd_loop{R:Result→Shared→Prop}{stb:St}{xs:List SV}(hx:∀so k,zO x k (stb.push so)=some xs[k]?)(hA:AOk d A.in1)(ob:Ok w zb):∀(ps:List (Bool×Int)) (k:Nat) (acc:List Int) (z:Z),zJ asN (xs.drop k)=some ps→LInv w d zb x it k z→z.st=stb.push (yY w acc)→z.ρ stb.nx=S→
  (∀p∈ps,p.2∈range6)→acc.length+ps.length≤4→(∀z',Step zb z'→z'.st=stb.push (yY w (ps.foldl insF acc))→z'.ρ stb.nx=S→R (.ok (.ret .none)) z'.s)→codeAny (model pw w) A (.builtin "set.update.loop" ⟨[.ref S,it],[]⟩) R z.s:=by
 intro ps
 induction ps with
 |nil=>
  intro k acc z hk L hz hS h6 h4 hR
  refine codeAny_builtin F.entry_set_update_loop ?_
  rw [Around.under_plainId F.plain_set_update_loop _]
  have e:xs[k]? =none:=by
   have:xs.drop k=[]:=by
    cases q:xs.drop k with
    |nil=>rfl
    |cons a r=>rw [q]at hk;obtain⟨_,_,hk⟩:=zz hk;obtain⟨_,_,hk⟩:=zz hk;cases hk
   exact List.getElem?_eq_none_iff.mpr (List.drop_eq_nil_iff.mp this)
  refine wpAny_bind (m:=pyNext it) (L.turn hA (L.step.ok ob) (hz▸hx _ k) (fun _ G s T=>wpAny_pure (hR _ T hz hS)) fun v u G s q=>(zu e q).elim)
 |cons p ps ih=>
  intro k acc z hk L hz hS h6 h4 hR
  refine codeAny_builtin F.entry_set_update_loop ?_
  rw [Around.under_plainId F.plain_set_update_loop _]
  obtain⟨x0,e1,e2,e3⟩:∃x0,xs[k]? =some x0∧asN x0=some p∧zJ asN (xs.drop (k+1))=some ps:=by
   rw [←List.tail_drop]
   have e:xs[k]? =(xs.drop k)[0]? :=by rw [List.getElem?_drop];rfl
   cases q:xs.drop k with
   |nil=>rw [q]at hk;cases hk
   |cons a r=>
    rw [q]at hk e
    obtain⟨_,e1,hk⟩:=zz hk
    obtain⟨_,e2,hk⟩:=zz hk
    cases hk
    exact⟨a,e,e1,e2⟩
  refine wpAny_bind (m:=pyNext it) (L.turn hA (L.step.ok ob) (hz▸hx _ k) (fun q=>(zu q e1).elim) fun v u G s q L' hv=> ?_)
  obtain rfl:=Option.some.inj (e1.symm.trans q)
  obtain⟨t,rfl⟩:=zL e2 hv
  have r1:=L'.step.rep
  have h0:Has z.st stb.nx (yY w acc):=hz▸y7
  obtain⟨o,w1⟩:=r1.own _ _ h0
  have hp:=w1.hp
  have h6':=h6 p (.head _)
  refine wpAny_bind (m:=holding [Value.int p.2 t] (setAdd S (.int p.2 t))) (wpAny_holding (wpAny_holding (wpAny_bind ((intKind pw w).pyHash (k:=p.2) (intKind_is _ _ _ _) ?_))))
  rw [show(intKind pw w).hash p.2=p.2 from yB h6']
  refine xW (s:={s with toks:=s.toks+1}) (hS▸hp) w1.rel.set h6' (Nat.le_of_add_le_add_right (Nat.le_trans (Nat.add_le_add_left (Nat.succ_le_succ (Nat.zero_le _)) _) h4)) fun h2 o2 g1 g2 g3 b=> ?_
  have T:=r1.turn (s:={s with heap:=h2,toks:=s.toks+1}) (so':=yY w (ins p.2 acc)) h0 (fun b n=>g3.2 b (hS▸n)) (hS▸g1) (.gen (fun _ q=>nomatch q) g2) (.same rfl rfl)
  have:=ih (k+1) (ins p.2 acc) ⟨G,z.ρ,z.st.put stb.nx (yY w (ins p.2 acc)),{s with heap:=h2,toks:=s.toks+1}⟩ e3 (L'.go T) (hz▸St.push_put) hS (fun q m=>h6 q (.tail _ m)) (Nat.le_trans (Nat.add_le_add_right ((ORel.set w1.rel).1.le h6') _) (Nat.le_trans (Nat.le_of_eq (Nat.succ_add_eq_add_succ _ _)) h4)) hR
  exact wpAny_pure ⟨plainId_quiet F.plain_set_update_loop _,this⟩
theorem AOk.ins(h:AOk (d+1) A):AOk d A.in1.in1∧AOk d A.in1.in1.in1:=⟨h.of (x:=0) (y:=2) rfl rfl rfl (by decide) (by decide),h.of (x:=0) (y:=3) rfl rfl rfl (by decide) (by decide)⟩
noncomputable def itemsOf(st:St)(x:SV):Option (List SV):=match x with
 | .tup xs=>some xs
 |x=>zZ st x
inductive HasI(z:Z)(x:SV)(v:Value)(xs:List SV):Prop
 |mk {a o T}:v= .ref a→z.At a o→o.cls= .type T→(Value.type T==Value.type "dict")=false→isSubtype (.type T) (.type "set")=pure false→isSubtype (.type T) (.type "frozenset")=pure false→(∀so,xp iterL iterT x (z.st.push so)=some fun K=>K x (z.st.push so))→(∀so k,zO x k (z.st.push so)=some xs[k]?)→HasI z x v xs
theorem items_has{xs}(h:itemsOf z.st x=some xs)(r:Rep z)(q:VRel z.y x v):HasI z x v xs:=by
 have sub:=fun a o (e:z.G a=some o)=>r.sub a o e
 have q':=q.inv
 induction x using SV.casesOn with
 |tup ys=>
  cases h
  rcases q' with⟨g,_⟩
  exact .mk rfl (sub _ _ g) rfl (by decide) F.sub_tuple_set F.sub_tuple_frozenset (fun _=>rfl) fun _ _=>rfl
 |vlist ys=>
  cases h
  rcases q' with⟨_,⟨g,_⟩⟩
  exact .mk rfl (sub _ _ g) rfl (by decide) F.sub_list_set F.sub_list_frozenset (fun _=>rfl) fun _ _=>rfl
 |ref i=>
  obtain⟨hi,e⟩:=q'
  obtain⟨vs,k,h1,_⟩:=r.list_of (zB h)
  have e2:∀so,zA (z.st.push so) i=some xs:=fun so=>by
   unfold zA
   rw [show List.lookup i (z.st.push so).own=List.lookup i z.st.own from(zn ..).trans (if_neg (Nat.ne_of_lt hi))]
   exact h
  refine .mk e h1 rfl (by decide) F.sub_list_set F.sub_list_frozenset (fun so=> ?_) fun so k=> ?_
  ·show orE ((zA (z.st.push so) i).bind _) _=_
   rw [e2];rfl
  ·show(zA (z.st.push so) i).map _=_
   rw [e2];rfl
 |_=>exact(zu rfl h).elim
noncomputable def setB1(w:World):IterH:=fun x st=>(itemsOf st x).bind fun xs=>(zJ asN xs).bind fun l=>some fun K=>(∀p∈l,p.2∈range6)∧l.length≤4∧K (.vset (!zy w) (yl l)) st
theorem isAny_no{s:Shared}{T:String}(hT:s.TypeIs v T)(h1:isSubtype (.type T) (.type "set")=pure false)(h2:isSubtype (.type T) (.type "frozenset")=pure false){Q:Bool→Shared→Prop}(h:Q false s):wpAny (model pw w) A (Builtin.Frozenset.isAnySet v) Q E s:=
 wpAny_bind (m:=isInstance v (.type "set")) (wpAny_isInstance hT h1 (wpAny_isInstance hT h2 h))
theorem setB1_ok:BTOk w (d+1) (.type "set") (b1 (setB1 w)):=yx fun x t K z v e k q A E ha ok=>by
 obtain⟨xs,e1,e⟩:=zz e
 obtain⟨l,e2,e⟩:=zz e
 cases e
 obtain⟨h6,h4,k⟩:=k
 rcases items_has e1 ok.rep q with @⟨a,o,T,rfl,ho,hT,hd,n1,n2,hi,hx⟩
 refine call_set_gen fun A' E' o0 hA' h0 hf=> ?_
 subst hA'
 have S1:=ok.rep.pushO (o:=o0) (so:=yY w []) hf (.gen (fun _ q=>nomatch q) h0)
 have o1:=S1.ok ok
 have hT1:Shared.TypeIs {z.s with heap:=z.s.heap.push o0} (.ref a) T:=⟨o,Heap.get?_push_of_some _ ho,hT⟩
 refine wpAny_bind (isAny_no hT1 n1 n2 (wpAny_bind (wpAny_typeOf hT1 (zG hd ?_))))
 obtain⟨hA,hA'⟩:=ha.ins
 refine wpAny_bind (m:=pyIter (.ref a)) (wpAny_mono ((xG.iter.or iterT_ok.iter) x _ (fun x' st'=>x'=x∧st'=z.st.push (yY w [])) _ _ _ _ (hi _) ⟨rfl,rfl⟩ (S1.val q) hA o1) (fun it s p=> ?_) fun _ _ e=>e)
 cases p with
 | @mk z2 x' _ L k2=>
  obtain⟨rfl,e3⟩:=k2
  have S2:=L.step
  refine wpAny_bind (m:=runValue _) (wpAny_runValue (upd_loop hx hA' o1 l 0 [] z2 e2 L e3 ((S2.le.rho _ (Nat.lt_succ_self _)).trans zQ) h6 ((Nat.zero_add _).symm▸h4) fun z3 S3 e4 e5=> ?_))
  have h5:Has z3.st z.st.nx (yY w (yl l)):=e4▸y7
  obtain⟨o3,w3⟩:=S3.rep.own _ _ h5
  have S4:=S1.trans S3
  have F:=S4.trans (S3.rep.freeze h5 w3.hp)
  have B:=Step.same ok.rep F fun i so h=> ?_
  ·exact wpAny_pure (.mk (z':=⟨xm z3.G (z3.ρ z.st.nx) o3,z.ρ,z.st,z3.s⟩) B (.vset (show(if _=_ then _ else _)=some o3 from if_pos e5.symm) w3.rel.set) k)
  ·obtain⟨_,w0⟩:=ok.rep.own i so h
   exact e4▸push_drop (Nat.ne_of_lt w0.lt) h
end
set_option tactic.hygienic true
theorem room4:((List.range 5).all fun n=>((zS true []).roomFor n).isNone&&((zS false []).roomFor n).isNone)=true:=by decide+kernel
section
variable {w:World}{d:Nat}{A:Around}{E:Value→Shared→Prop}{z zb:Z}{x:SV}{v it:Value}{a S:Addr}{y:Y}{s:Shared}{xs:List Int}{ts:List Tok}{ep ep0:Nat}{o:Obj}
theorem room_none{led:Bool}{n:Nat}(h:n≤4):(zS led []).roomFor n=none:=by
 have e:=List.all_eq_true.mp room4 n (List.mem_range.mpr (Nat.lt_succ_of_le h))
 cases led
 ·exact Option.isNone_iff_eq_none.mp (zx e).2
 ·exact Option.isNone_iff_eq_none.mp (zx e).1
theorem empty_set{led}(h:SetObj led [] o):∃ep,o=setO led [] [] ep:=by
 obtain⟨_,ts,ep,ht,rfl⟩:=yM h
 obtain rfl:=List.length_eq_zero_iff.mp ht
 exact⟨ep,rfl⟩
theorem xI{each:Sem Unit}{Q:Unit→Shared→Prop}(hS:smallL xs)(ht:ts.length=xs.length)(ho:s.heap.get? a=some (setOw w xs ts ep))(hn:s.heap.get? S=some (setOw w [] [] ep0))(hne:S≠a)
  (h:∀h' o,h'.get? S=some o→SetObj (!zy w) xs o→Heap.SameBut S s.heap h'→Q () {s with heap:=h'}):wpAny (model pw w) A (setMerge S a each) Q E s:=by
 have h0:smallL []:=show _∈xD by decide+kernel
 refine zG (c:=S==a) (beq_false_of_ne hne) (wpAny_bind (m:=setState a) (wpAny_setState_of ho rfl (yy hS ht) ?_))
 cases xs with
 |nil=>
  obtain rfl:=List.length_eq_zero_iff.mp ht
  exact wpAny_pure (h s.heap _ hn ⟨h0,[],ep0,rfl,rfl⟩ (Heap.SameBut.refl _ _))
 |cons x r=>
  cases ts with
  |nil=>cases ht
  |cons t ts=>
   refine wpAny_bind (m:=setRoomFor S _) (wpAny_bind (m:=setState S) (wpAny_setState_of hn rfl (yy h0 rfl) ?_))
   have e:(zS (!zy w) []).roomFor (zc (x::r) (t::ts)).toArray.size=none:=room_none (yc (Nat.le_refl _) hS ht)
   dsimp only
   rw [e]
   refine wpAny_pure (wpAny_bind (m:=setState S) (wpAny_setState_of hn rfl (yy h0 rfl) ?_))
   refine wpAny_storeSet_of hn rfl ?_ (yc (by rw [sizeLine_eq];decide) hS ht)
   refine h _ _ (Heap.get?_update_self _ hn (by rfl)) ⟨hS,t::ts,ep0+1,ht,?_⟩ (Heap.SameBut.update ..)
   rw [putSet_of _ _ rfl]
   show Obj.mk _ _ (.set _ _ {zS (!zy w) (x::r)with led:=(!zy w) &&(!zy w)}) _=_
   rw [Bool.and_self];rfl
theorem Rep.newG(r:Rep z){s':Shared}(hk:∀b o,z.At b o→s'.heap.get? b=some o)(hS:z.s.heap.get? S=none)(ho:s'.heap.get? S=some o)(g:GS z.s s'):Step z ⟨xm z.G S o,z.ρ,z.st,s'⟩:=
 (r.grow hk g).addG (z':=z.sh s') ⟨hS,(r.aside hS).1,(r.aside hS).2⟩ ho
theorem xA(hT:s.TypeIs v "set"){Q:Bool→Shared→Prop}(h:Q true s):wpAny (model pw w) A (Builtin.Frozenset.isAnySet v) Q E s:=
 wpAny_bind (m:=isInstance v (.type "set")) (wpAny_isInstance hT sub_set_self (wpAny_pure h))
noncomputable def setB2(w:World):IterH:=fun x st=>(wq x).bind fun p=>some fun K=>p.1= !zy w∧K x st
theorem setB2_ok:BTOk w d (.type "set") (b1 (setB2 w)):=yx fun x t K z v e k q A E ha ok=>by
 obtain⟨⟨led,xs⟩,e1,e⟩:=zz e
 cases e
 obtain⟨rfl,k⟩:=k
 obtain rfl:=yT e1
 rcases q.inv with⟨g,hs⟩
 obtain⟨hS,ts,ep,ht,rfl⟩:=yM (led:= !zy w) (xs:=xs) hs
 rename_i a
 have ho:=ok.rep.sub _ _ g
 refine call_set_gen fun A' E' o0 hA' h0 hf=> ?_
 obtain⟨ep0,rfl⟩:=empty_set h0
 have ho1:=Heap.get?_push_of_some (setOw w [] [] ep0) ho
 refine wpAny_bind (xA (v:= .ref a) ⟨_,ho1,rfl⟩ ?_)
 refine wpAny_bind (m:=Builtin.Frozenset.addrOf (.ref a)) (wpAny_of_eq (a:=a) (by rfl) (wpAny_bind (m:=setEpoch a) (wpAny_setEpoch_of ho1 rfl (yy hS ht) ?_)))
 refine xI hS ht ho1 (Heap.get?_push_size _ rfl) (Nat.ne_of_lt (Heap.lt_size ho)).symm fun h' o' hg hs' hsb=> ?_
 exact .mk (z':=⟨xm z.G z.new o',z.ρ,z.st,_⟩) (ok.rep.newG (fun b ob e=>(hsb.2 b fun q=>zu (zh _) (q▸e)).trans (Heap.get?_push_of_some _ e)) (zh _) hg .heap) (.vset (if_pos rfl) hs') k
end
set_option tactic.hygienic false
noncomputable def eFact(xs:List Int):Bool:=(xs==range6.filter fun a=>xs.elem a) &&(Nat.beq xs.length 4||range6.all fun x=>range6.all fun a=>(ins x xs).elem a==(xs.elem a||x==a))
theorem eFacts:xD.all eFact=true:=by decide+kernel
noncomputable def zP(xs ys:List Int):List Int:=range6.filter fun a=>xs.elem a&&ys.elem a
noncomputable def left(es:List (Int×Value))(xs:List Int)(a:Int):Bool:=es.any (fun e=>e.1==a) &&xs.elem a
section
variable {w:World}{d:Nat}{A:Around}{E:Value→Shared→Prop}{s:Shared}{xs ys acc:List Int}{ts:List Tok}{ep ep0:Nat}{o oA oW o0:Obj}{a b r:Addr}{x:Int}
theorem smallL.self(h:smallL xs):xs=range6.filter fun a=>xs.elem a:=eq_of_beq (zx (List.all_eq_true.mp eFacts xs h)).1
theorem elem_ins{n:Int}(h:smallL xs)(hl:xs.length≤3)(hx:x∈range6)(hn:n∈range6):(Mine.ins x xs).elem n=(xs.elem n||x==n):=by
 rcases(Bool.or_eq_true _ _).mp (zx (List.all_eq_true.mp eFacts xs h)).2 with e|e
 ·exact absurd (Nat.eq_of_beq_eq_true e) (Nat.ne_of_lt (Nat.lt_succ_of_le hl))
 ·exact eq_of_beq (List.all_eq_true.mp (List.all_eq_true.mp e x hx) n hn)
theorem wp_ifT{α:Type}{M:Model}{c:Bool}{t e:Sem α}{Q:α→Shared→Prop}(h:c=true)(k:wpAny M A t Q E s):wpAny M A (if c=true then t else e) Q E s:=by rw [h];exact k
theorem xZ{led}(ho:s.heap.get? a=some o)(hs:SetObj led xs o){Q:Nat→Shared→Prop}(h:Q xs.length s):wpAny (model pw w) A (Builtin.Frozenset.sizeOf a) Q E s:=by
 obtain⟨hS,ts,ep,ht,rfl⟩:=yM hs
 exact wpAny_bind (m:=setEntries a) (wpAny_setEntries_of ho rfl (yy hS ht) (wpAny_pure (show Q (zc xs ts).length s from(zV ht).symm▸h)))
theorem inter_for{f:Int×Value→PUnit→Sem (ForInStep PUnit)}{id:String}{ep:Nat}(hf:∀h x u,f (h,x) u=(do
    holding [x] do
     if(←setFind a x h).isSome then
      let _←setAddHashed r x h
    Builtin.Frozenset.unchanged id b ep
    pure (ForInStep.yield PUnit.unit)))
  (hA:s.heap.get? a=some oA) (sA:SetObj (!zy w) xs oA) (hun:∀h',Heap.SameBut r s.heap h'→∀{A E} {Q:Unit→Shared→Prop},Q () {s with heap:=h'}→wpAny (model pw w) A (Builtin.Frozenset.unchanged id b ep) Q E {s with heap:=h'}) (nA:a≠r) {Q:PUnit→Shared→Prop}:
  ∀(es:List (Int×Value)) (acc:List Int) (h':Heap) (o':Obj),(∀e∈es,e.1∈range6∧∃t,e=(e.1,.int e.1 t))→acc.length+es.length≤4→Heap.SameBut r s.heap h'→h'.get? r=some o'→SetObj (!zy w) acc o'→
   (∀h2 o2 acc2,Heap.SameBut r s.heap h2→h2.get? r=some o2→SetObj (!zy w) acc2 o2→(∀n∈range6,acc2.elem n=(acc.elem n||left es xs n))→Q ⟨⟩ {s with heap:=h2})→wpAny (model pw w) A (forIn es ⟨⟩ f) Q E {s with heap:=h'}:=by
 intro es
 induction es with
 |nil=>
  intro acc h' o' _ _ hs hr sr hQ
  rw [List.forIn_nil]
  exact wpAny_pure (hQ h' o' acc hs hr sr fun n _=>(Bool.or_false _).symm)
 |cons e es ih=>
  intro acc h' o' he hl hs hr sr hQ
  obtain⟨⟨h6,t,q⟩,he'⟩:=List.forall_mem_cons.mp he
  obtain⟨n,x⟩:=e
  have q2:x= .int n t:=(Prod.mk.inj q).2
  subst q2
  rw [List.forIn_cons,hf]
  have l3:acc.length≤3:=Nat.le_of_add_le_add_right (Nat.le_trans (Nat.add_le_add_left (Nat.succ_le_succ (Nat.zero_le _)) _) hl)
  refine wpAny_bind (wpAny_bind (wpAny_holding (wpAny_bind (m:=setFind a (.int n t) n) (ww (s:={s with heap:=h'}) ((hs.2 a nA).trans hA) sA h6 fun rr hrr=> ?_))))
  rw [hrr]
  have next:∀h2 o2 acc2,Heap.SameBut r s.heap h2→h2.get? r=some o2→SetObj (!zy w) acc2 o2→acc2.length≤acc.length+1→(∀m∈range6,acc2.elem m=(acc.elem m||(n==m&&xs.elem m)))→wpAny (model pw w) A (Builtin.Frozenset.unchanged id b ep) (fun _ s'=>wpAny (model pw w) A (pure (ForInStep.yield PUnit.unit)) (fun r s'=>wpAny (model pw w) A (match r with| .done b=>pure b| .yield b=>forIn es b f) Q E s') E s') E {s with heap:=h2}:=fun h2 o2 acc2 g1 g2 g3 g4 g5=>
   hun h2 g1 (wpAny_pure (ih acc2 h2 o2 he' (Nat.le_trans (Nat.add_le_add_right g4 _) (Nat.le_trans (Nat.le_of_eq (Nat.succ_add_eq_add_succ _ _)) hl)) g1 g2 g3 fun h3 o3 acc3 k1 k2 k3 k4=>hQ h3 o3 acc3 k1 k2 k3 fun m hm=>by
    rw [k4 m hm,g5 m hm]
    show _=(acc.elem m||((n==m||es.any fun e=>e.1==m) &&xs.elem m))
    rw [Bool.and_or_distrib_right,Bool.or_assoc];rfl))
  cases hc:xs.elem n with
  |false=>
   refine wpAny_pure (wpAny_bind (next h' o' acc hs hr sr (Nat.le_succ _) fun m hm=> ?_))
   by_cases q:n=m
   ·rw [←q,hc,Bool.and_false,Bool.or_false]
   ·rw [beq_false_of_ne q,Bool.false_and,Bool.or_false]
  |true=>
   refine wpAny_bind (m:=setAddHashed r (.int n t) n) (xW (s:={s with heap:=h'}) hr sr h6 l3 fun h2 o2 g1 g2 g3 _=>wpAny_pure (wpAny_bind (next h2 o2 _ (hs.trans g3) g1 g2 (sr.1.le h6) fun m hm=> ?_)))
   rw [elem_ins sr.1 l3 h6 hm]
   by_cases q:n=m
   ·rw [←q,hc,Bool.and_true]
   ·rw [beq_false_of_ne q,Bool.false_and]
theorem any_keys(ht:ts.length=ys.length)(n:Int):(zc ys ts).any (fun e=>e.1==n)=ys.elem n:=by
 rw [Bool.eq_iff_iff,List.any_eq_true,List.elem_iff]
 refine⟨fun⟨e,he,q⟩=>eq_of_beq q▸key_mem ht he,fun h=> ?_⟩
 obtain⟨e,he,q⟩:=List.mem_map.mp ((y3 ht).symm▸h:n∈(zc ys ts).map (·.1))
 exact⟨e,he,beq_iff_eq.mpr q⟩
theorem inter_walk{id:String}{Q:PUnit→Shared→Prop}
  (hA:s.heap.get? a=some oA) (sA:SetObj (!zy w) xs oA) (hW:s.heap.get? b=some oW) (sW:SetObj (!zy w) ys oW) (h0:s.heap.get? r=some o0) (s0:SetObj (!zy w) [] o0) (nA:a≠r) (nW:b≠r)
  (h:∀h' o',h'.get? r=some o'→SetObj (!zy w) (zP ys xs) o'→Heap.SameBut r s.heap h'→Q ⟨⟩ {s with heap:=h'}):
  wpAny (model pw w) A (do
   let was←setEpoch b
   let l←setWalkUnseen b [a,r] (some r)
   for (h,x)in l do
    holding [x] do
     if(←setFind a x h).isSome then
      let _←setAddHashed r x h
    Builtin.Frozenset.unchanged id b was) Q E s:=by
 obtain⟨hS,ts,ep,ht,rfl⟩:=yM sW
 have hf:=yy (led:= !zy w) hS ht
 have hp:=ordS_perm w b ep (zc ys ts)
 refine wpAny_bind (wpAny_setEpoch_of hW rfl hf (wpAny_bind (m:=setWalkUnseen b [a,r] (some r)) (wpAny_bind (m:=setState b) (wpAny_setState_of hW rfl hf (wpAny_bind (m:=setsByText) (wpAny_bind (wpAny_askSetting (wpAny_pure ?_))))))))
 refine wp_ifT ?h ?_
 ·show(zy w||((!zy w) &&true)||_)=true
  cases zy w<;>rfl
 refine wx hS ht hW ?_
 rw [←Array.forIn_toList]
 refine wpAny_bind (m:=forIn _ _ _) ?_
 refine inter_for (a:=a) (r:=r) (b:=b) (ep:=ep) (id:=id) ?hf hA sA (fun h' hb=>fun hq=> ?_) nA (ordS w b ep (zc ys ts)) [] s.heap o0 (fun e he=> ?_) ?_ (Heap.SameBut.refl _ _) h0 s0 fun h2 o2 acc2 g1 g2 g3 g4=>wpAny_pure (h h2 o2 g2 ?_ g1)
 ·exact fun _ _ _=>rfl
 ·exact wpAny_bind (m:=setEpoch b) (wpAny_setEpoch_of ((hb.2 b nW).trans hW) rfl hf (zG (c:=ep !=ep) (bne_self_eq_false _) (wpAny_pure hq)))
 ·have he:=hp.mem_iff.mp he
  exact⟨hS.six (key_mem ht he),xl he⟩
 ·rw [hp.length_eq,zV ht];exact(Nat.zero_add _).symm▸hS.four
 ·refine(?_:acc2=zP ys xs)▸g3
  refine g3.1.self.trans (List.filter_congr fun n hn=>(g4 n hn).trans (congrArg (· &&xs.elem n) ?_))
  rw [hp.any_eq]
  exact any_keys ht n
end
theorem entry_set_and:entryFor table "set.__and__"=some Builtin.«frozenset.__and__»:=entryFor_alias (id':="frozenset.__and__") (by kernel_rfl) rfl (by decide+kernel) (by kernel_rfl)
theorem fill_set_and:fillsNumberSlot (.type "set") "and"=pure true:=fillsNumberSlot_of (id:="set.__and__") (r:=some (.builtin "set.__rand__")) F.slot_set_and.lookup (by rfl) F.slot_set_rand.lookup
section
variable {w:World}{d:Nat}{A:Around}{E:Value→Shared→Prop}{s:Shared}{xs ys acc:List Int}{ts:List Tok}{ep ep0:Nat}{o oa ob o0:Obj}{a b r:Addr}{x:Int}
theorem inter_self(h:smallL xs):zP xs xs=xs:=(List.filter_congr fun _ _=>Bool.and_self _).trans h.self.symm
theorem inter_comm:zP xs ys=zP ys xs:=List.filter_congr fun _ _=>Bool.and_comm _ _
theorem SetObj.type{led}(hs:SetObj led xs o):o.cls= .type "set":=by obtain⟨_,_,_,_,rfl⟩:=hs;rfl
theorem wU(hT:s.TypeIs (.ref a) "set"){Q:Value→Shared→Prop}(h:Q (.type "set") s):wpAny (model pw w) A (Builtin.Frozenset.baseOf a) Q E s:=
 wpAny_bind (m:=isInstance (.ref a) (.type "set")) (wpAny_isInstance hT sub_set_self (wpAny_pure h))
theorem same_list{led}(h1:SetObj led xs o)(h2:SetObj led ys o):xs=ys:=by
 obtain⟨_,ts,ep,h3,rfl⟩:=yM h1
 obtain⟨_,ts2,ep2,h4,e⟩:=yM h2
 injection e with _ _ e _
 injection e with e _ _
 exact(y3 h3).symm.trans ((congrArg (fun l:Array (Int×Value)=>l.toList.map (·.1)) e).trans (y3 h4))
theorem wp_inter{id:String}{Q:Value→Shared→Prop}(ha:s.heap.get? a=some oa)(sa:SetObj (!zy w) xs oa)(hb:s.heap.get? b=some ob)(sb:SetObj (!zy w) ys ob)
  (h:∀h' o',h'.get? s.heap.objs.size=some o'→SetObj (!zy w) (zP xs ys) o'→(∀c o,s.heap.get? c=some o→h'.get? c=some o)→Q (.ref s.heap.objs.size) {s with heap:=h'}):
  wpAny (model pw w) A (Builtin.Frozenset.intersection id a (.ref b)) Q E s:=by
 have hTa:s.TypeIs (.ref a) "set":=⟨_,ha,sa.type⟩
 have fresh:∀{o0 h'},Heap.SameBut s.heap.objs.size (s.heap.push o0) h'→∀c o,s.heap.get? c=some o→h'.get? c=some o:=fun hb c o e=>(hb.2 c fun q=>zu (zh _) (q▸e)).trans (Heap.get?_push_of_some _ e)
 by_cases hab:b=a
 ·subst hab
  obtain rfl:=Option.some.inj (ha.symm.trans hb)
  obtain rfl:=same_list sa sb
  refine wp_ifT (c:=Value.ref b==Value.ref b) (beq_self_eq_true _) ?_
  refine wpAny_bind (m:=Builtin.Frozenset.baseOf b) (wU hTa (wpAny_bind (m:=newSet (.type "set")) (yI fun o0 s0 hf0=> ?_)))
  obtain⟨ep0,rfl⟩:=empty_set s0
  obtain⟨hS,ts,ep,ht,rfl⟩:=yM sa
  refine wpAny_bind (m:=setMerge s.heap.objs.size b) (xI hS ht (Heap.get?_push_of_some _ ha) (Heap.get?_push_size _ rfl) (Nat.ne_of_lt (Heap.lt_size ha)).symm fun h' o' hg hs' hsb=> ?_)
  exact wpAny_pure (h h' o' hg ((inter_self hS).symm▸hs') (fresh hsb))
 ·refine zG (c:=Value.ref b==Value.ref a) (beq_false_of_ne fun q=>hab (Value.ref.inj q)) ?_
  refine wpAny_bind (m:=Builtin.Frozenset.baseOf a) (wU hTa (wpAny_bind (m:=newSet (.type "set")) (yI fun o0 s0 hf0=> ?_)))
  have ha':=Heap.get?_push_of_some o0 ha
  have hb':=Heap.get?_push_of_some o0 hb
  have na:a≠s.heap.objs.size:=Nat.ne_of_lt (Heap.lt_size ha)
  have nb:b≠s.heap.objs.size:=Nat.ne_of_lt (Heap.lt_size hb)
  have h0':(s.heap.push o0).get? s.heap.objs.size=some o0:=Heap.get?_push_size _ hf0
  refine wpAny_bind (m:=Builtin.Frozenset.addrOf (.ref s.heap.objs.size)) (wpAny_of_eq (a:=s.heap.objs.size) (by rfl) (wpAny_bind (m:=holding [Value.ref s.heap.objs.size] _) (wpAny_holding ?_)))
  refine wpAny_bind (m:=Builtin.Frozenset.isAnySet (.ref b)) (xA (s:={s with heap:=s.heap.push o0}) (v:= .ref b) ⟨_,hb',sb.type⟩ ?_)
  refine wpAny_bind (m:=Builtin.Frozenset.addrOf (.ref b)) (wpAny_of_eq (a:=b) (by rfl) ?_)
  refine wpAny_bind (m:=Builtin.Frozenset.sizeOf b) (xZ (s:={s with heap:=s.heap.push o0}) hb' sb (wpAny_bind (m:=Builtin.Frozenset.sizeOf a) (xZ (s:={s with heap:=s.heap.push o0}) ha' sa ?_)))
  by_cases hlt:ys.length>xs.length
  ·rw [if_pos hlt]
   exact inter_walk (s:={s with heap:=s.heap.push o0}) hb' sb ha' sa h0' s0 nb na fun h' o' g1 g2 g3=>wpAny_pure (h h' o' g1 g2 (fresh g3))
  ·rw [if_neg hlt]
   exact inter_walk (s:={s with heap:=s.heap.push o0}) ha' sa hb' sb h0' s0 na nb fun h' o' g1 g2 g3=>wpAny_pure (h h' o' g1 (inter_comm▸g2) (fresh g3))
theorem and_set{Q:Value→Shared→Prop}(ha:s.heap.get? a=some oa)(sa:SetObj (!zy w) xs oa)(hb:s.heap.get? b=some ob)(sb:SetObj (!zy w) ys ob)
  (h:∀h' o',h'.get? s.heap.objs.size=some o'→SetObj (!zy w) (zP xs ys) o'→(∀c o,s.heap.get? c=some o→h'.get? c=some o)→Q (.ref s.heap.objs.size) {s with heap:=h'}):
  wpAny (model pw w) A (binaryOp .BitAnd (.ref a) (.ref b)) Q E s:=by
 have hTa:s.TypeIs (.ref a) "set":=⟨_,ha,sa.type⟩
 have hTb:s.TypeIs (.ref b) "set":=⟨_,hb,sb.type⟩
 refine wpAny_binaryOp_same hTa hTb fill_set_and F.slot_set_and (wpAny_call_entry F.slot_set_and hTa entry_set_and ?_ (F.args_set_and_2 _ _))
 refine wpAny_bind (m:=Builtin.Frozenset.slot1 "__and__" ⟨[.ref a,.ref b],[]⟩) (wpAny_of_eq (a:=(.ref a,.ref b)) (by rfl) ?_)
 refine wpAny_bind (m:=(Builtin.Frozenset.isAnySet (.ref a)<&&>Builtin.Frozenset.isAnySet (.ref b))) (wpAny_bind (m:=Builtin.Frozenset.isAnySet (.ref a)) (xA hTa (xA hTb ?_)))
 refine wpAny_bind (m:=Builtin.Frozenset.addrOf (.ref a)) (wpAny_of_eq (a:=a) (by rfl) (wpAny_bind (m:=Builtin.Frozenset.intersection _ a (.ref b)) (wp_inter ha sa hb sb fun h' o' h1 h2 h3=> ?_)))
 exact wpAny_pure ⟨_,rfl,fun q=>(nomatch q),h h' o' h1 h2 h3⟩
noncomputable def isAndO(op:Operator):Bool:=match op with
 | .BitAnd=>true
 |_=>false
theorem isAndO_ok{op}(h:isAndO op=true):op= .BitAnd:=by
 induction op using Operator.casesOn with
 |BitAnd=>rfl
 |_=>exact Bool.noConfusion h
noncomputable def andS(w:World):Operator→SV→SV→St→Tr:=fun op x y st=>zj (isAndO op) ((wq x).bind fun p=>(wq y).bind fun q=>some fun K=>(p.1= !zy w∧q.1= !zy w)∧K (.vset (!zy w) (zP p.2 q.2)) st)
theorem andS_ok:OpOk w d (h2 x6 (andS w)):=zH yO fun op x y t K z v u e k q q2 A E _ ok=>by
 obtain⟨e0,e⟩:=zv e
 obtain⟨⟨l1,xs⟩,e1,e⟩:=zz e
 obtain⟨⟨l2,ys⟩,e2,e⟩:=zz e
 cases e
 obtain⟨⟨rfl,rfl⟩,k⟩:=k
 rcases(yT e1▸q).inv with⟨g1,s1⟩
 rcases(yT e2▸q2).inv with⟨g2,s2⟩
 rw [isAndO_ok e0]
 exact and_set (ok.rep.sub _ _ g1) s1 (ok.rep.sub _ _ g2) s2 fun h' o' a1 a2 a3=>.mk (z':=⟨xm z.G z.new o',z.ρ,z.st,_⟩) (ok.rep.newG a3 (zh _) a1 .heap) (.vset (if_pos rfl) a2) k
end
noncomputable def lenS:IterH:=fun x st=>(wq x).bind fun p=>some fun K=>K (.sint p.2.length) st
noncomputable def methS(x:SV)(n:Str)(_:St):Option (SV×List SV):=(wq x).bind fun _=>zj (n=="intersection") (some (.top (.builtin "set.intersection"),[x]))
section
variable {w:World}{d:Nat}
theorem lenS_ok:BTOk w d (.builtin "len") (b1 lenS):=yx fun x t K z v e k q A E _ ok=>by
 obtain⟨p,e1,e⟩:=zz e
 cases e
 rcases(yT e1▸q).inv with⟨g,hs⟩
 obtain⟨hS,ts,ep,ht,rfl⟩:=yM hs
 refine call_len_set (ok.rep.sub _ _ g) ⟨rfl,rfl,rfl⟩ rfl (yy hS ht) (by have:=yc (n:=4) (Nat.le_refl _) hS ht;omega) ?_
 rw [show(zc p.2 ts).toArray.size=p.2.length from zV ht]
 exact ok.rep.endT .num k
theorem methS_ok{x:SV}{n:Str}{f:SV}{xs:List SV}{z:Z}{v:Value}{pl:Sem Bool}{A:Around}{E:Value→Shared→Prop}{Q:Value×List Value→Shared→Prop}(h:methS x n z.st=some (f,xs))(ok:Ok w z)(q:VRel z.y x v)(hQ:∀fv vs,VRel z.y f fv→VRels z.y xs vs→Q (fv,vs) z.s):wpAny (model pw w) A (getMethod v n pl) Q E z.s:=by
 obtain⟨p,e1,h⟩:=zz h
 obtain⟨e2,h⟩:=zv h
 cases h
 obtain rfl:=eq_of_beq e2
 have hQ:=hQ _ _ .top (.cons q .nil)
 rcases(yT e1▸q).inv with⟨g,hs⟩
 have ho:=ok.rep.sub _ _ g
 exact getMethod_builtin ⟨_,ho,hs.type⟩ F.plainAttrs_set F.slot_set_intersection F.type_set_intersection (fun b e=>by cases e;exact⟨_,ho,by obtain⟨_,_,_,_,rfl⟩:=hs;rfl⟩) hQ
end
theorem entry_set_inter:entryFor table "set.intersection"=some Builtin.«frozenset.intersection»:=entryFor_alias (id':="frozenset.intersection") (by kernel_rfl) rfl (by decide+kernel) (by kernel_rfl)
theorem xe:entryFor table "frozenset.intersection.loop"=some Builtin.«frozenset.intersection.loop»:=entryFor_of_tree (by kernel_rfl)
theorem yq:plainId "frozenset.intersection.loop"=true:=by decide+kernel
noncomputable def interB(w:World):SV→SV→St→Tr:=fun x y st=>(wq x).bind fun p=>(itemsOf st y).bind fun ys=>(zJ asN ys).bind fun l=>some fun K=>(p.1= !zy w∧(∀q∈l,q.2∈range6)∧l.length≤1)∧K (.vset (!zy w) (zP p.2 (l.map (·.2)))) st
section
variable {w:World}{d:Nat}{A:Around}{E:Value→Shared→Prop}{z zb:Z}{x:SV}{v it:Value}{S a:Addr}{y:Y}{xs:List Int}{oa:Obj}
theorem one_no{m n:Int}(q:n≠m):[m].elem n=false:=Bool.eq_false_iff.mpr fun h=>q (List.mem_singleton.mp (List.elem_iff.mp h))
theorem inter_end{R:Result→Shared→Prop}{stb:St}{ys:List SV}{k:Nat}{acc:List Int}(hx:∀so k,zO x k (stb.push so)=some ys[k]?)(hA:AOk d A.in1)(ob:Ok w zb)(e:ys[k]? =none)(L:LInv w d zb x it k z)(hz:z.st=stb.push (yY w acc))(hR:∀z',Step zb z'→z'.st=stb.push (yY w acc)→z'.ρ stb.nx=z.ρ stb.nx→R (.ok (.ret .none)) z'.s):
  codeAny (model pw w) A (.builtin "frozenset.intersection.loop" ⟨[.ref a,it,.ref S],[]⟩) R z.s:=by
 refine codeAny_builtin xe ?_
 rw [Around.under_plainId yq _]
 exact wpAny_bind (m:=pyNext it) (L.turn hA (L.step.ok ob) (hz▸hx _ k) (fun _ G s T=>wpAny_pure (hR _ T hz rfl)) fun v u G s q=>(zu e q).elim)
theorem inter_loop{R:Result→Shared→Prop}{stb:St}{ys:List SV}{l:List (Bool×Int)}(hx:∀so k,zO x k (stb.push so)=some ys[k]?)(hA:AOk d A.in1)(ob:Ok w zb)(hl:zJ asN ys=some l)(L:LInv w d zb x it 0 z)(hz:z.st=stb.push (yY w []))(hS:z.ρ stb.nx=S)(ga:zb.G a=some oa)(sa:SetObj (!zy w) xs oa)
  (h6:∀p∈l,p.2∈range6) (h1:l.length≤1) (hR:∀z' acc,Step zb z'→z'.st=stb.push (yY w acc)→z'.ρ stb.nx=S→(∀n∈range6,acc.elem n=(xs.elem n&&(l.map (·.2)).elem n))→R (.ok (.ret .none)) z'.s):
  codeAny (model pw w) A (.builtin "frozenset.intersection.loop" ⟨[.ref a,it,.ref S],[]⟩) R z.s:=by
 cases ys with
 |nil=>
  cases hl
  exact inter_end hx hA ob rfl L hz fun z' T e1 e2=>hR z' [] T e1 (e2.trans hS) fun n _=>(Bool.and_false _).symm
 |cons y0 ys=>
  obtain⟨p,e1,hl⟩:=zz hl
  obtain⟨l',e2,hl⟩:=zz hl
  cases hl
  obtain rfl:l'=[]:=List.length_eq_zero_iff.mp (Nat.le_zero.mp (Nat.le_of_succ_le_succ h1))
  have eys:ys=[]:=by
   cases ys with
   |nil=>rfl
   |cons a r=>obtain⟨_,_,e⟩:=zz e2;obtain⟨_,_,e⟩:=zz e;cases e
  subst eys
  refine codeAny_builtin xe ?_
  rw [Around.under_plainId yq _]
  refine wpAny_bind (m:=pyNext it) (L.turn (y:=some y0) hA (L.step.ok ob) (hz▸hx _ 0) (fun q=>nomatch q) fun v u G s q L' hv=> ?_)
  obtain rfl:=Option.some.inj q
  obtain⟨t,rfl⟩:=zL e1 hv
  have r1:=L'.step.rep
  have h0:Has z.st stb.nx (yY w []):=hz▸y7
  obtain⟨o,w1⟩:=r1.own _ _ h0
  have hp:=w1.hp
  have h6':=h6 p (.head _)
  have ha:s.heap.get? a=some oa:=r1.sub _ _ (L'.step.le.ext _ _ ga)
  refine wpAny_bind (m:=holding [Value.int p.2 t] (pyHash (.int p.2 t))) (wpAny_holding ((intKind pw w).pyHash (k:=p.2) (intKind_is _ _ _ _) ?_))
  rw [show(intKind pw w).hash p.2=p.2 from yB h6']
  refine wpAny_bind (m:=holding [Value.int p.2 t] (setFind a (.int p.2 t) p.2)) (wpAny_holding (ww (s:={s with toks:=s.toks+1}) ha sa h6' fun rr hrr=> ?_))
  rw [hrr]
  cases hc:xs.elem p.2 with
  |false=>
   have T:=r1.grow (z:=⟨G,z.ρ,z.st,s⟩) (s:={s with toks:=s.toks+1}) (fun _ _ e=>e) (.same rfl rfl)
   refine wpAny_pure ⟨plainId_quiet yq _,inter_end (z:=⟨G,z.ρ,z.st,{s with toks:=s.toks+1}⟩) (k:=1) hx hA ob rfl (L'.go T) hz fun z' T e1 e2=>hR z' [] T e1 (e2.trans hS) fun n _=> ?_⟩
   by_cases q:n=p.2
   ·rw [q,hc];rfl
   ·exact((congrArg _ (one_no q)).trans (Bool.and_false _)).symm
  |true=>
   refine wpAny_bind (m:=holding [Value.int p.2 t] (setAddHashed S (.int p.2 t) p.2)) (wpAny_holding (xW (s:={s with toks:=s.toks+1}) (hS▸hp) w1.rel.set h6' (Nat.zero_le _) fun h2 o2 g1 g2 g3 b=> ?_))
   have T:=r1.turn (s:={s with heap:=h2,toks:=s.toks+1}) (so':=yY w (ins p.2 [])) h0 (fun b n=>g3.2 b (hS▸n)) (hS▸g1) (.gen (fun _ q=>nomatch q) g2) (.same rfl rfl)
   have key:∀n∈range6,(ins p.2 []).elem n=(xs.elem n&&[p.2].elem n):=fun n hn=>by
    rw [elem_ins (xs:=[]) (show _∈xD by decide+kernel) (Nat.zero_le _) h6' hn]
    by_cases q:n=p.2
    ·rw [q,hc]
     show(false||p.2==p.2)=(true&&List.elem p.2 [p.2])
     rw [beq_self_eq_true,List.elem_iff.mpr (.head _)];rfl
    ·rw [one_no q,beq_false_of_ne (Ne.symm q),Bool.and_false];rfl
   have hSS:z.ρ stb.nx=S:=hS
   refine wpAny_bind (m:=Builtin.Frozenset.sizeOf S) (xZ (s:={s with heap:=h2,toks:=s.toks+1}) g1 g2 (wpAny_bind (m:=Builtin.Frozenset.sizeOf a) (xZ (s:={s with heap:=h2,toks:=s.toks+1}) (T.rep.sub _ _ ((L'.step.trans T).le.ext _ _ ga)) sa ?_)))
   by_cases hge:(ins p.2 []).length≥xs.length
   ·rw [if_pos hge]
    exact wpAny_bind (wpAny_rule (wpAny_pure (hR ⟨G,z.ρ,z.st.put stb.nx (yY w (ins p.2 [])),{s with heap:=h2,toks:=s.toks+1}⟩ _ (L'.step.trans T) (hz▸St.push_put) hS key)))
   ·rw [if_neg hge]
    exact wpAny_pure ⟨plainId_quiet yq _,inter_end (z:=⟨G,z.ρ,z.st.put stb.nx (yY w (ins p.2 [])),{s with heap:=h2,toks:=s.toks+1}⟩) (k:=1) hx hA ob rfl (L'.go T) (hz▸St.push_put) fun z' T e1 e2=>hR z' _ T e1 (e2.trans hS) key⟩
theorem interB_ok:BTOk w (d+1) (.builtin "set.intersection") (b2 (interB w)):=b2_ok fun x y t K z v u e k q q2 A E ha ok=>by
 obtain⟨⟨led,xs⟩,e1,e⟩:=zz e
 obtain⟨ys,e2,e⟩:=zz e
 obtain⟨l,e3,e⟩:=zz e
 cases e
 obtain⟨⟨rfl,h6,h1⟩,k⟩:=k
 rcases(yT e1▸q).inv with @⟨a,oa,g,sa⟩
 rcases items_has e2 ok.rep q2 with @⟨b,o,T,rfl,ho,hT,hd,n1,n2,hi,hx⟩
 have hoa:=ok.rep.sub _ _ g
 have hTa:z.s.TypeIs (.ref a) "set":=⟨_,hoa,sa.type⟩
 have hab:b≠a:=fun q=>by
  subst q
  have e:=(hT.symm.trans (congrArg (·.cls) (Option.some.inj (ho.symm.trans hoa)))).trans sa.type
  rw [e]at n1
  exact nomatch sub_set_self.symm.trans n1
 refine wpAny_call_entry F.slot_set_intersection hTa entry_set_inter ?_ (F.args_set_intersection_2 _ _)
 refine wpAny_bind (wpAny_of_eq (a:=(a,[.ref b])) (by rfl) (zG (c:=List.isEmpty [Value.ref b]) rfl ?_))
 refine wpAny_bind (m:=forIn [Value.ref b] (Value.ref a) _) ?_
 rw [List.forIn_cons]
 have hA:=ha.ins.1
 have hB:AOk d A.in1:=⟨hA.1,hA.2.1,Nat.lt_of_le_of_lt (Nat.add_le_add_right (Nat.le_succ _) _) hA.2.2⟩
 refine wpAny_bind (wpAny_bind (wpAny_holding (wpAny_bind (m:=Builtin.Frozenset.addrOf (.ref a)) (wpAny_of_eq (a:=a) (by rfl) (zG (c:=Value.ref b==Value.ref a) (beq_false_of_ne fun q=>hab (Value.ref.inj q)) ?_)))))
 refine wpAny_bind (m:=Builtin.Frozenset.baseOf a) (wU hTa (wpAny_bind (m:=newSet (.type "set")) (yI fun o0 h0 hf=> ?_)))
 have S1:=ok.rep.pushO (o:=o0) (so:=yY w []) hf (.gen (fun _ q=>nomatch q) h0)
 have o1:=S1.ok ok
 have hT1:Shared.TypeIs {z.s with heap:=z.s.heap.push o0} (.ref b) T:=⟨o,Heap.get?_push_of_some _ ho,hT⟩
 refine wpAny_bind (m:=Builtin.Frozenset.addrOf (.ref z.new)) (wpAny_of_eq (a:=z.new) (by rfl) (wpAny_bind (m:=holding [Value.ref z.new] _) (wpAny_holding ?_)))
 refine wpAny_bind (m:=Builtin.Frozenset.isAnySet (.ref b)) (isAny_no hT1 n1 n2 ?_)
 refine wpAny_bind (m:=pyIter (.ref b)) (wpAny_mono ((xG.iter.or iterT_ok.iter) y _ (fun x' st'=>x'=y∧st'=z.st.push (yY w [])) _ _ _ _ (hi _) ⟨rfl,rfl⟩ (S1.val q2) hB o1) (fun it s p=> ?_) fun _ _ e=>e)
 cases p with
 | @mk z2 x' _ L k2=>
  obtain⟨rfl,e4⟩:=k2
  have S2:=L.step
  refine wpAny_bind (m:=runValue _) (wpAny_runValue (inter_loop hx hA o1 e3 L e4 ((S2.le.rho _ (Nat.lt_succ_self _)).trans zQ) (S1.le.ext _ _ g) sa h6 h1 fun z3 acc S3 e5 e6 key=> ?_))
  have h5:Has z3.st z.st.nx (yY w acc):=e5▸y7
  obtain⟨o3,w3⟩:=S3.rep.own _ _ h5
  have F:=(S1.trans S3).trans (S3.rep.freeze h5 w3.hp)
  have B:=Step.same ok.rep F fun i so h=>by
   obtain⟨_,w0⟩:=ok.rep.own i so h
   exact e5▸push_drop (Nat.ne_of_lt w0.lt) h
  have ea:acc=zP xs (l.map (·.2)):=w3.rel.set.1.self.trans (List.filter_congr key)
  refine wpAny_pure (wpAny_pure (wpAny_pure ?_))
  dsimp only
  rw [List.forIn_nil]
  exact wpAny_pure (wpAny_pure ⟨_,rfl,.mk (z':=⟨xm z3.G (z3.ρ z.st.nx) o3,z.ρ,z.st,z3.s⟩) B (.vset (show(if _=_ then _ else _)=some o3 from if_pos e6.symm) (ea▸w3.rel.set)) k⟩)
noncomputable def P3(w:World):Prims:={P2 w with
 op:=yw (h2 x6 (andS w)) (P2 w).op
 call:=zp (onB true "set" (b1 (setB1 w)))<|zp (onB true "set" (b1 (setB2 w)))<|zp (onB false "len" (b1 lenS))<|zp (onB false "set.intersection" (b2 (interB w))) (P2 w).call
 iter:=xp (iterS w) (P2 w).iter
 meth:=methS}
theorem P3_ok(w:World)(d:Nat):Sound w (P3 w) (d+2):={P2_ok w d with
 op:=andS_ok.or (P2_ok w d).op
 call:=CallOk.or (BTOk.on (ty:=true) setB1_ok)<|CallOk.or (BTOk.on (ty:=true) setB2_ok)<|CallOk.or (BTOk.on (ty:=false) lenS_ok)<|CallOk.or (BTOk.on (ty:=false) interB_ok) (P2_ok w d).call
 iter:=iterS_ok.iter.or (P2_ok w d).iter
 meth:=fun _ _ _ _ _ _ _ _ _ _ h ok q hQ=>methS_ok h ok q hQ}
end
section
variable {prog:Program}{w:World}{A:Around}{E:Value→Shared→Prop}{s:Shared}
theorem stop_met{A1:Around}{α β:Type}{k:β→Sem α}{Q:Option Value→Shared→Prop}(hh:A1.handled=none)(hQ:∀h',(∀b o,s.heap.get? b=some o→h'.get? b=some o)→Q none {s with heap:=h'}){Q':α→Shared→Prop}:
  wpAny (model prog w) A1 (newExc (.type "StopIteration") []>>=fun e=>raiseNew e>>=k) Q' (fun e s'=>wpAny (model prog w) A (do if←isInstance e (.type "StopIteration")then pure none else throw e) Q E s') s:=by
 refine wpAny_bind (m:=newExc (.type "StopIteration") []) (wpAny_bind (m:=newTuple []) (wpAny_newObj_type ?_ (by size_fits)))
 refine wpAny_bind (m:=firstArgMember _ _) (wpAny_of_eq (a:=Value.none) (by rfl) ?_)
 refine wpAny_newObj_type ?_ (by size_fits)
 refine wpAny_bind (m:=raiseNew _) (wpAny_bind (m:=handled) (wpAny_handled ?_))
 rw [hh]
 refine wpAny_bind (m:=pure _) (wpAny_pure (wpAny_throw ?_))
 refine wpAny_bind (m:=isInstance _ _) (wpAny_isInstance (T:="StopIteration") (b:=true) ⟨_,Heap.get?_push_size _ rfl,rfl⟩ isSubtype_stop ?_)
 exact wpAny_pure (hQ _ fun b o e=>Heap.get?_push_of_some _ (Heap.get?_push_of_some _ e))
theorem pyNext_genQ{r0:Result}(h0:r0= .ok .next∨r0= .ok (.ret .none)){a:Addr}{g n:Nat}{gs:GenState}{P:Nat→Shared→Shared→Prop}{Y:Protocol}{Q:Option Value→Shared→Prop}(hh:A.handled=none)
  (hl:s.heap.NoLimit) (hroom:A.depth<recursionLimit) (hg:s.heap.IsGen a g) (hgs:s.gens[g]? =some gs)
  (hgo:gs.Goes (model prog w) A.in1 (fun n s₀ r s₁=>r=r0∧P n s₀ s₁) Y n (.send .none) (s.setGen g .running))
  (hY:∀v s₁ gs',gs'.bare=true→Y (n-1) (s.setGen g .running) v s₁ (fun r' s''=>match n with
    |0=>False
    |m+1=>gs'.Goes (model prog w) A.in1 (fun n s₀ r s₁=>r=r0∧P n s₀ s₁) Y m r' s'')→Q (some v) (s₁.setGen g gs'))
  (hP:∀s₁,P n (s.setGen g .running) s₁→∀h',(∀b o,s₁.heap.get? b=some o→h'.get? b=some o)→Q none {s₁.setGen g .finished with heap:=h'}):
  wpAny (model prog w) A (pyNext (.ref a)) Q E s:=by
 refine wpAny_bind (wpAny_attempt (wpAny_callSpecial?_slot (name:="__next__") hg.typeIs slot_gen_next (wpAny_call_entry slot_gen_next hg.typeIs entry_gen_next ?_ (args_gen_next _))))
 refine wpAny_bind (m:=holding _ _) (wpAny_holding (wpAny_genNumber hg (wpAny_bind (wpAny_genState hgs ?_))))
 cases gs with
 |running=>exact hgo.elim
 |finished=>exact hgo.elim
 |_=>
  refine wpAny_bind (wpAny_roomToWake hl hroom (wpAny_resumeQ hgs hgo (fun x s₁ hx=> ?_) (fun v s₁ gs' hb hv=> ?_)))
  ·obtain⟨rfl,hp⟩:=hx
   rcases h0 with rfl|rfl
   ·exact stop_met (A:=A) (A1:=A.in1) hh fun h' hk=>hP s₁ hp h' hk
   ·exact stop_met (A:=A) (A1:=A.in1) hh fun h' hk=>hP s₁ hp h' hk
  ·exact wpAny_pure ⟨v,rfl,wpAny_pure (hY v s₁ gs' hb hv)⟩
theorem pyIter_own{M:Model}{K:Frag}{x C f:Addr}{ox:Obj}{od:Option Obj}{Q:Value→Shared→Prop}(X:K.In s.heap)(I:W.InstAt s.heap x ox C od)(hs:findIn K (.ref C) "__iter__"=some (some (.ref f)))(hf:isFn K (.ref f)=true)
  (h:wpAny M A (call (.ref f) [.ref x]) (fun it s'=>∃T id,s'.TypeIs it T∧typeLookup (.type T) "__next__"=pure (some id)∧Q it s') E s):wpAny M A (pyIter (.ref x)) Q E s:=by
 refine wpAny_bind (m:=specialOf (.ref x) "__iter__") (wpAny_bind (I.type.here ((looks_findIn X hs).here ?_)))
 refine wpAny_bind (m:=callSpecialIfBoundUnlessNone? (.ref x) "__iter__" _) (wpAny_holding (wpAny_bind (m:=bindSpecialIfBound? (.ref x) "__iter__") (wpAny_bind (m:=specialOf (.ref x) "__iter__") (wpAny_bind (I.type.here ((looks_findIn X hs).here ?_))))))
 have fin:∀{Q':Option (Value×List Value)→Shared→Prop} {E'},Q' (some (.ref f,[.ref x])) s→wpAny M A (bindSpecial (.ref f) (.ref x)>>=fun r=>pure (some r)) Q' E' s:=fun q=>wpAny_bind ((bind_fn X _ (beq_iff_eq.mp hf)).here (wpAny_pure q))
 refine wpAny_bind (wpAny_askSetting (wpAny_ite ?_))
 split
 ·exact fin (zG (c:=Value.ref f==Value.none) (beq_false_of_ne fun q=>nomatch q) (wpAny_bind (m:=call (.ref f) [.ref x]) (wpAny_mono h (fun v s' ⟨T,id,h1,h2,q⟩=>wpAny_pure (wpAny_bind (m:=specialOf v "__next__") (wpAny_specialOf h1 h2 (wpAny_pure q)))) fun _ _ e=>e)))
 ·exact wpAny_tryCatch (fin (zG (c:=Value.ref f==Value.none) (beq_false_of_ne fun q=>nomatch q) (wpAny_bind (m:=call (.ref f) [.ref x]) (wpAny_mono h (fun v s' ⟨T,id,h1,h2,q⟩=>wpAny_pure (wpAny_bind (m:=specialOf v "__next__") (wpAny_specialOf h1 h2 (wpAny_pure q)))) fun _ _ e=>e))))
end
noncomputable def Amx(d:Nat):Around:={depth:=recursionLimit-1-3*d,units:=cLine-1-16*d}
theorem room_of{x e L:Nat}(h:x+e<L):L-1-e+e<L∧x≤L-1-e:=
 have h1:x+e≤L-1:=Nat.le_sub_one_of_lt h
 ⟨(Nat.sub_add_cancel (Nat.le_trans (Nat.le_add_left ..) h1)).symm▸Nat.sub_one_lt (Nat.ne_of_gt (Nat.lt_of_le_of_lt (Nat.zero_le _) h)),Nat.le_sub_of_add_le h1⟩
theorem AOk.amx{d:Nat}{A:Around}(h:AOk d A):AOk d (Amx d)∧∀Γ:Ctx,Γ.In A→Γ.In (Amx d):=
 ⟨⟨rfl,(room_of h.2.1).1,(room_of h.2.2).1⟩,fun Γ g=>⟨g.1.trans h.1,Nat.le_trans g.2.1 (room_of h.2.1).2,fun _ q=>(nomatch q),fun _ q=>(nomatch q),Nat.le_trans g.2.2.2.2 (room_of h.2.2).2⟩⟩
noncomputable def Rest(y0:Y)(Dr:List Addr)(R:Nat→Shared→Prop):Prop:=∀k s s',R k s→(∀b o,b∈Dr→s.heap.get? b=some o→s'.heap.get? b=some o)→(∀b o,y0.G b=some o→s'.heap.get? b=some o)→(∀b∈bases,∃o,s'.heap.get? b=some o∧TabO o)→s'.os=s.os→R k s'
structure Tn(G0:GH)(Dr:List Addr)(s₀:Shared)(G1:GH)(s:Shared):Prop where
 keep:∀b o,b∉Dr→b∉bases→s₀.heap.get? b=some o→s.heap.get? b=some o
 tab:∀b∈bases,∃o,s.heap.get? b=some o∧TabO o
 sub:∀b o,G1 b=some o→s.heap.get? b=some o
 new:∀b o,G1 b=some o→G0 b=some o∨s₀.heap.get? b=none
 own:∀b∈Dr,G1 b=none
 gs:GS s₀ s
inductive GenT(G0:GH)(ys:List SV)(Dr:List Addr)(R:Nat→Shared→Prop)(m:Nat)(s₀:Shared)(v:Value)(s:Shared)(kap:Resume→Shared→Prop):Prop
 |mk {k y G1 ρ1 n1}:k+(m+1)=ys.length→ys[k]? =some y→y.pure=true→VRel ⟨G1,ρ1,n1⟩ y v→Tn G0 Dr s₀ G1 s→(∀b∈Dr,∃o,s.heap.get? b=some o)→R (k+1) s→(∀s'',R (k+1) s''→kap (.send .none) s'')→GenT G0 ys Dr R m s₀ v s kap
noncomputable def genE(r0:Result)(G0:GH)(Dr:List Addr):GenEnd:=fun n s₀ r s₁=>r=r0∧(n=0∧Tn G0 Dr s₀ (fun _=>none) s₁)
inductive GenW(w:World)(d:Nat)(a:Addr)(y0:Y)(ys:List SV)(r0:Result)(n:Nat)(D:List Addr)(gs:GenState)(s:Shared):Prop
 |mk {Dr R}:(∀b∈Dr,(b∈D∧b≠a)∨s.heap.get? b=none)→Rest y0 Dr R→gs.Goes (model pw w) (Amx d).in1 (genE r0 y0.G Dr) (GenT y0.G ys Dr R) n (.send .none) s→GenW w d a y0 ys r0 n D gs s
inductive GenI(w:World)(d:Nat)(a:Addr)(g:Nat)(y0:Y)(ys:List SV)(r0:Result)(k:Nat)(D:List Addr)(s:Shared):Prop
 |mk {R gs n}:a∈D→s.heap.IsGen a g→Rest y0 D R→R k s→s.gens[g]? =some gs→k+n=ys.length→(∀b∈D,∃o,s.heap.get? b=some o)→(∀s'',R k s''→GenW w d a y0 ys r0 n D gs s'')→GenI w d a g y0 ys r0 k D s
noncomputable def mrg(G G1:GH):GH:=fun b=>(G b).or (G1 b)
theorem or_some{α:Type}{x y:Option α}{o:α}(h:x.or y=some o):x=some o∨(x=none∧y=some o):=by
 cases x with
 |none=>exact .inr ⟨rfl,h⟩
 |some _=>exact .inl h
section
variable {w:World}{d:Nat}{z:Z}{y0:Y}{a:Addr}{g:Nat}{gs gs':GenState}{s:Shared}
theorem xX{g':Nat}(h:g'≠g):(s.setGen g gs).gens[g']? =s.gens[g']? :=(GenOnly.setGen s g gs).2 g' h
theorem setGen_bare(hx:gs.bare=true)(h:∀y∈s.gens,y.bare=true):∀y∈(s.setGen g gs).gens,y.bare=true:=by
 intro y hy
 obtain⟨i,e⟩:=Array.mem_iff_getElem?.mp hy
 by_cases q:i=g
 ·subst q
  have hs:i<s.gens.size:=(GenOnly.setGen s i gs).1▸(Array.getElem?_eq_some_iff.mp e).1
  exact Option.some.inj ((setGen_self (Array.getElem?_eq_getElem hs)).symm.trans e)▸hx
 ·exact h _ (Array.mem_of_getElem? ((xX q).symm.trans e))
section
variable {D Dr:List Addr}{G1:GH}{s₁:Shared}
theorem Tn.grow{h':Heap}(ok:Ok w z)(hy:Le y0 z.y)(hD:∀b∈D,z.G b=none∧z.Out b)(hd:∀b∈Dr,(b∈D∧b≠a)∨z.s.heap.get? b=none)(T:Tn y0.G Dr (z.s.setGen g .running) G1 s₁)
  (hh:∀b o,s₁.heap.get? b=some o→h'.get? b=some o) (hb:gs'.bare=true):Grow D g z (mrg z.G G1) {s₁.setGen g gs' with heap:=h'}:=
 have keep:∀b o,b∉D→b∉bases→z.At b o→h'.get? b=some o:=fun b o n m e=>hh b o (T.keep b o (fun q=>(hd b q).elim (fun q=>n q.1) fun q=>zu q e) m e)
 ⟨keep,fun b m=>let⟨o,e,t⟩:=T.tab b m;⟨o,hh b o e,t⟩,fun b o e=>Option.or_eq_some_iff.mpr (.inl e),fun b o e=>(or_some e).elim (fun e=>keep b o (fun q=>zu (hD b q).1 e) (ok.rep.frozen e).2 (ok.rep.sub b o e)) fun e=>hh b o (T.sub b o e.2),
  fun b o e=>(or_some e).elim .inl fun e=>(T.new b o e.2).imp (hy.ext b o) id,T.gs.os,fun g' gs h e=>(xX (Nat.ne_of_lt h)).trans (T.gs.gens g' gs ((xX (Nat.ne_of_lt h)).trans e)),fun h=>setGen_bare hb (T.gs.bare (setGen_bare rfl h))⟩
theorem Tn.aside(ok:Ok w z)(hy:Le y0 z.y)(hD:∀b∈D,z.G b=none∧z.Out b)(hd:∀b∈Dr,(b∈D∧b≠a)∨z.s.heap.get? b=none)(T:Tn y0.G Dr (z.s.setGen g .running) G1 s₁)(ha:a∈D)(hg:z.s.heap.IsGen a g):∀b∈a::Dr,(b∈D∨z.s.heap.get? b=none)∧mrg z.G G1 b=none:=fun b hb=>by
 rcases List.mem_cons.mp hb with rfl|hb
 ·exact⟨.inl ha,Option.or_eq_none_iff.mpr ⟨(hD _ ha).1,yW (fun o e=>hg.elim fun o' h=>h.elim fun _ h=>h.elim fun _ h=>(T.new _ o e).elim (fun q=>(zu (hD _ ha).1 (hy.ext _ _ q)).elim) fun q=>(zu q h.1).elim) (rfl:(none:Option Obj)=none)⟩⟩
 ·exact⟨(hd b hb).imp (·.1) id,Option.or_eq_none_iff.mpr ⟨(hd b hb).elim (fun q=>(hD b q.1).1) fun q=>(ok.rep.aside q).1,T.own b hb⟩⟩
end
theorem GenI.turn{ys:List SV}{r0:Result}(h0:r0= .ok .next∨r0= .ok (.ret .none)){k:Nat}{D:List Addr}{A:Around}{E:Value→Shared→Prop}{Q:Option Value→Shared→Prop}(hA:AOk d A)(hI:GenI w d a g y0 ys r0 k D z.s)(ok:Ok w z)(hy:Le y0 z.y)(hD:∀b∈D,z.G b=none∧z.Out b)
  (hQ:∀r G s,Grow D g z G s→Gives D z G (fun D'=>GenI w d a g y0 ys r0 (k+1) D' s) ys[k]? r→Q r s):wpAny (model pw w) A (pyNext (.ref a)) Q E z.s:=by
 obtain @⟨R,gs,n,ha,hg,hR,hr,hgs,hn,_,hgo⟩:=hI
 have B:∀b∈bases,∃o,z.s.heap.get? b=some o∧TabO o:=fun b m=>let⟨o,w⟩:=ok.rep.tab b m;⟨o,w.at',w.tab⟩
 obtain @⟨Dr,R',hd,hR',hgo⟩:=hgo (z.s.setGen g .running) (hR k z.s _ hr (fun _ _ _ e=>e) (fun b o e=>ok.rep.sub b o (hy.ext b o e)) B rfl)
 refine fun Γ p hΓ=>(pyNext_genQ (A:=Amx d) (n:=n) (P:=fun n s₀ s₁=>n=0∧Tn y0.G Dr s₀ (fun _=>none) s₁) h0 rfl (xU ok.kin) hA.amx.1.room hg hgs hgo (fun v s₁ gs' hb hY=> ?_) (fun s₁ hP h' hk=> ?_)) Γ p (hA.amx.2 Γ hΓ)
 ·obtain @⟨k',y,G1,ρ1,n1,hk,hy1,hp,hv,T,hl,hr2,hkap⟩:=hY
  cases n with
  |zero=>exact(hkap _ hr2).elim
  |succ m=>
   obtain rfl:k'=k:=Nat.add_right_cancel (hk.trans hn.symm)
   have G:=T.grow (h':=s₁.heap) (gs':=gs') ok hy hD hd (fun _ _ e=>e) hb
   have ha1:z.s.heap.IsGen a g→(s₁.setGen g gs').heap.IsGen a g:=fun⟨o,nm,qn,e,r⟩=>⟨o,nm,qn,T.keep a o (fun q=>(hd a q).elim (fun q=>q.2 rfl) fun q=>zu q e) (hD a ha).2.2 e,r⟩
   refine hQ _ _ _ G (hy1▸ .some (D':=a::Dr) (.mk (R:=R') (gs:=gs') (n:=m) (.head _) (ha1 hg) (fun k s s' r h=>hR' k s s' r fun b o q=>h b o (.tail _ q)) (hR' _ _ _ hr2 (fun _ _ _ e=>e) (fun b o e=>G.sub b o (G.ext b o (hy.ext b o e))) G.tab rfl) (setGen_self (T.gs.gens g _ (setGen_self hgs))) ((Nat.succ_add ..).trans hn) (List.forall_mem_cons.mpr ⟨let⟨o,_,_,e,_⟩:=ha1 hg;⟨o,e⟩,hl⟩) fun s'' h=>.mk (fun b q=>.inl ⟨.tail _ q,fun c=>(hd b q).elim (fun q=>q.2 c) fun q=>let⟨_,_,_,e,_⟩:=hg;zu q (c▸e)⟩) hR' (hkap s'' h)) (T.aside ok hy hD hd ha hg) (hv.mv (fun b o e=> ?_) (.inl hp)))
   ·show(z.G b).or (G1 b)=some o
    cases q:z.G b with
    |none=>exact e
    |some o'=>exact(G.sub b o' (G.ext b o' q)).symm.trans (T.sub b o e)
 ·have G:=hP.2.grow (gs':= .finished) ok hy hD hd hk rfl
  exact hQ _ _ _ G (List.getElem?_eq_none (Nat.le_of_eq (hn.symm.trans (congrArg (k+ ·) hP.1)))▸ .none)
theorem GenI.iter{x:SV}{ys:List SV}{r0:Result}(h0:r0= .ok .next∨r0= .ok (.ret .none))(hx:∀k st,zO x k st=some ys[k]?):IterI w d x (.ref a) g y0 (GenI w d a g y0 ys r0)where
 frame:=fun k D s s' hI hk hG ht hg=>by
  obtain @⟨R,gs,n,ha,h,hR,hr,hgs,hn,hl,hgo⟩:=hI
  exact .mk ha (let⟨o,nm,qn,e,r⟩:=h;⟨o,nm,qn,hk a o ha e,r⟩) hR (hR k s s' hr hk hG ht hg.os) (hg.gens _ _ hgs) hn (fun b hb=>let⟨o,e⟩:=hl b hb;⟨o,hk b o hb e⟩) hgo
 turn:=fun k D y z A E Q hA hI ok hy hD hi hQ=>by
  cases Option.some.inj ((hx k z.st).symm.trans hi)
  exact hI.turn h0 hA ok hy hD hQ
 live:=fun k D s hI=>by cases hI;assumption
 self:=fun k D s A E Q hI hQ=>by
  cases hI with|mk _ hg=>exact wpAny_pyIter_gen hg hQ
 tgo:=fun k D s A E Q t v hI hQ=>by
  cases hI with|mk _ hg=>obtain⟨o,nm,qn,e,hc,_⟩:=hg;exact tgo_ok hc (by decide) e hQ t v
end
structure GX where
 n:Nat
 G:GH
 ρ:Nat→Addr
 cap:List (Nat×SO)
 cls:String
 nc:cls≠ "part"
 q0:Str×Value
 x:Str
 I:Addr
 Ob:Nat→Obj→Prop
noncomputable def tops(l:List (Str×Value)):List (Str×SV):=l.map fun p=>(p.1,.top p.2)
noncomputable def GX.st(X:GX)(l:List (Str×Value)):St:=⟨(4,.ns X.cls (tops l))::X.cap,X.n⟩
noncomputable abbrev GX.y(X:GX):Y:=⟨X.G,X.ρ,X.n⟩
noncomputable abbrev GX.z(X:GX)(l:List (Str×Value))(s:Shared):Z:=⟨X.G,X.ρ,X.st l,s⟩
noncomputable abbrev GX.D(X:GX):List Addr:=[X.ρ 4,X.I]
noncomputable abbrev GX.C(X:GX)(st:St):Prop:=∀i so,X.cap.lookup i=some so→Has st i so
inductive GX.L(X:GX):List (Str×Value)→Prop
 |one:X.L [X.q0]
 |two {v}:X.L [X.q0,(X.x,v)]
structure GX.Ok(X:GX)(y0:Y):Prop where
 hG:∀b o,X.G b=some o→y0.G b=some o
 cap:∀i so,X.cap.lookup i=some so→∃v o,so= .cellF v o∧y0.G (X.ρ i)=some o
 gI:X.G X.I=none
 oI:∀l s,(X.z l s).Out X.I
inductive GX.At(X:GX)(k:Nat)(s:Shared):Prop
 |mk {l o}:X.L l→Rep (X.z l s)→s.heap.get? X.I=some o→X.Ob k o→GX.At X k s
section
variable {z:Z}{X:GX}{y0:Y}{k i:Nat}{so:SO}{s s1:Shared}{l:List (Str×Value)}
theorem Rep.exact(r:Rep z){i v o}(h:Has z.st i (.cellF v o)):z.At (z.ρ i) o:=let⟨_,w⟩:=r.own i _ h;w.rel.1▸w.hp
theorem Rep.to(r:Rep z)(hG:∀b o,z.G b=some o→s1.heap.get? b=some o)(ho:∀i so o,Has z.st i so→z.At (z.ρ i) o→s1.heap.get? (z.ρ i)=some o)(ht:∀b∈bases,∃o,s1.heap.get? b=some o∧TabO o):Rep (z.sh s1):=
 ⟨hG,fun i so h=>let⟨o,w⟩:=r.own i so h;⟨o,w.lt,w.gn,ho i so o h w.hp,w.rel⟩,r.inj,fun b m=>let⟨_,w⟩:=r.tab b m;let⟨o,e,t⟩:=ht b m;⟨o,e,t,w.gn,w.ow⟩⟩
theorem GX.own(h:Has (X.st l) i so):(i=4∧so= .ns X.cls (tops l))∨(X.cap.lookup i=some so∧∀l,Has (X.st l) i so):=
 have h:=(zn ..).symm.trans h
 if e:i=4 then .inl ⟨e,(Option.some.inj ((if_pos e).symm.trans h)).symm⟩else have h:=(if_neg e).symm.trans h;.inr ⟨h,fun l=>(zn ..).trans ((if_neg e).trans h)⟩
theorem GX.has{l'}(h:Has (X.st l') i so):∃so',Has (X.st l) i so':=(GX.own h).elim (fun q=>q.1▸⟨_,rfl⟩) fun q=>⟨_,q.2 l⟩
theorem GX.cell(O:X.Ok y0)(r:Rep (X.z l s)){i so o}(h:Has (X.st l) i so)(c:X.cap.lookup i=some so)(e:s.heap.get? (X.ρ i)=some o):∃v,so= .cellF v o∧y0.G (X.ρ i)=some o:=by
 obtain⟨v,o',rfl,g⟩:=O.cap i so c
 obtain rfl:o'=o:=Option.some.inj ((r.exact h).symm.trans e)
 exact⟨v,rfl,g⟩
theorem GX.Ok.rest(O:X.Ok y0):Rest y0 X.D X.At:=fun k s s' hA hk hG ht _=>by
 obtain⟨hl,r,hI,hb⟩:=hA
 exact .mk hl (r.to (fun b o e=>hG b o (O.hG b o e)) (fun i so o h e=>(GX.own h).elim (fun q=>q.1▸hk _ o (.head _) (q.1▸e)) fun c=>hG _ o ((GX.cell O r h c.1 e).elim fun _ q=>q.2)) ht) (hk _ _ (.tail _ (.head _)) hI) hb
theorem ORel.ns2{y:Y}{c:String}{q0:Str×Value}{x:Str}{u:SV}{o:Obj}(hc:c≠ "part")(h:ORel y (.ns c [(q0.1,.top q0.2),(x,u)]) o):∃v,xt o (fun n=>List.lookup n [q0,(x,v)]):=by
 obtain⟨l,n,f⟩:=h
 replace f:=f.ex.resolve_left hc
 obtain⟨p,r,rfl⟩:=List.exists_cons_of_length_eq_add_one f.length.symm
 obtain⟨p2,r2,rfl⟩:=List.exists_cons_of_length_eq_add_one (Nat.succ.inj f.length.symm)
 obtain rfl:=List.eq_nil_of_length_eq_zero (Nat.succ.inj (Nat.succ.inj f.length.symm))
 obtain⟨a,b⟩:=f.get 0 _ rfl
 obtain rfl:p=q0:=Prod.ext a.symm b.inv
 obtain rfl:x=p2.1:=(f.get 1 _ rfl).1
 exact⟨_,n⟩
theorem tops_ok{y:Y}:∀l,FRels y (tops l) l
 | []=>.nil
 |_::r=>.cons .top (tops_ok r)
theorem GX.turned(O:X.Ok y0)(hl:X.L l)(r:Rep (X.z l s))(hk:∀b o,b≠X.I→s.heap.get? b=some o→s1.heap.get? b=some o)(hos:s1.os=s.os)(hgs:s1.gens=s.gens){o'}(hI:s1.heap.get? X.I=some o')(hb:X.Ob (k+1) o')
  {z3:Z} {u} (S:Step (X.z l s1) z3) (h4:Has z3.st 4 (.ns X.cls [(X.q0.1,.top X.q0.2),(X.x,u)])) (hc:X.C z3.st):Tn y0.G X.D s z3.G z3.s∧(∀b∈X.D,∃o,z3.At b o)∧X.At (k+1) z3.s:=by
 obtain⟨o4,w4⟩:=S.rep.own 4 _ h4
 have lt4:4<X.n:=let⟨_,w⟩:=r.own 4 _ rfl;w.lt
 have e4:z3.ρ 4=X.ρ 4:=S.le.rho 4 lt4
 have hp4:z3.At (X.ρ 4) o4:=e4▸w4.hp
 have gn4:z3.G (X.ρ 4)=none:=e4▸w4.gn
 obtain⟨pI,_,qI⟩:=S.out X.I o' hI (O.oI l s1)
 have lt:∀{i so},X.cap.lookup i=some so→Has (X.st l) i so→z3.ρ i=X.ρ i:=fun _ h=>let⟨_,w⟩:=r.own _ _ h;S.le.rho _ w.lt
 have ow:∀b,b≠X.ρ 4→(∀i so,X.cap.lookup i=some so→Has (X.st l) i so→X.ρ i≠b)→(X.z l s1).Ow b:=fun b h h2 i so q=>(GX.own q).elim (fun e=>e.1▸h.symm) fun c=>h2 i so c.1 q
 refine⟨⟨fun b o n m e=> ?_,fun b m=>let⟨o,w⟩:=S.rep.tab b m;⟨o,w.at',w.tab⟩,S.rep.sub,fun b o e=> ?_,List.forall_mem_cons.mpr ⟨gn4,List.forall_mem_cons.mpr ⟨qI.trans O.gI,fun _ h=>nomatch h⟩⟩,(GS.same hos hgs).trans S.gs⟩,List.forall_mem_cons.mpr ⟨⟨_,hp4⟩,List.forall_mem_cons.mpr ⟨⟨_,pI⟩,fun _ h=>nomatch h⟩⟩,?_⟩
 ·by_cases q:(X.z l s1).Ow b
  ·exact(S.out b o (hk b o (fun c=>n (c▸ .tail _ (.head _))) e) ⟨q,m⟩).1
  ·exact Classical.byContradiction fun c=>q (ow b (fun c=>n (c▸ .head _)) fun i so h h' d=>c (by
    subst d
    obtain⟨v,rfl,_⟩:=GX.cell O r h' h e
    exact lt h h'▸S.rep.exact (hc i _ h)))
 ·cases q1:s1.heap.get? b with
  |none=>exact .inr (yW (fun x q=>⟨x,hk b x (fun c=>zu q1 (c▸hI)) q⟩) q1)
  |some x=>
   by_cases q:(X.z l s1).Out b
   ·exact .inl (O.hG b o ((S.out b x q1 q).2.2.symm.trans e))
   ·exact(q ⟨ow b (fun c=>zu gn4 (c▸e)) fun i so h h' d=>let⟨_,w⟩:=S.rep.own i so (hc i so h);zu w.gn (((lt h h').trans d).symm▸e),fun m=>let⟨_,w⟩:=S.rep.tab b m;zu w.gn e⟩).elim
 ·obtain⟨v2,n⟩:=w4.rel.ns2 X.nc
  refine .mk (l:=[X.q0,(X.x,v2)]) .two ⟨fun b o e=>S.rep.sub b o (S.le.ext b o e),fun i so h=> ?_,fun i j so so' h1 h2=>let⟨_,a⟩:=GX.has h1;let⟨_,b⟩:=GX.has h2;r.inj i j _ _ a b,fun b m=>let⟨_,w⟩:=S.rep.tab b m;let⟨_,v⟩:=r.tab b m;⟨_,w.at',w.tab,v.gn,fun i so h=>let⟨_,a⟩:=GX.has h;v.ow i _ a⟩⟩ pI hb
  rcases GX.own h with⟨rfl,rfl⟩|⟨c,h'⟩
  ·exact⟨o4,lt4,(let⟨_,w⟩:=r.own 4 _ rfl;w.gn),hp4,.ns n (tops_ok _).n⟩
  ·obtain⟨v,o,rfl,_⟩:=O.cap i so c
   obtain⟨p,w⟩:=r.own i _ (h' l)
   obtain rfl:p=o:=w.rel.1
   exact⟨p,w.lt,w.gn,show z3.At (X.ρ i) p from lt c (h' l)▸S.rep.exact (hc i _ c),w.rel⟩
end
noncomputable def BodyOk(w:World)(P:Prims)(N:Nat)(fr:FrS)(X:GX)(px:Pos)(elt:Expr)(u y:SV):Prop:=y.pure=true∧∀l,X.L l→
 vc w P N (.A (.Name X.x px) u fr (X.st l) fun st2=>vc w P N (.E elt fr st2 fun y' st3=>y'=y∧Has st3 4 (.ns X.cls [(X.q0.1,.top X.q0.2),(X.x,u)])∧X.C st3))
structure GLoop(w:World)(P:Prims)(d:Nat)(X:GX)(y0:Y)(xi:SV)(us ys:List SV)(N:Nat)(fr:FrS)(px:Pos)(elt:Expr):Prop where
 S:Sound w P d
 ok:X.Ok y0
 base:Base w X.G
 one:∃T y1,One w d xi T y1 X.I X.Ob∧((∀b o,y1.G b=some o→X.G b=some o)∧(xi.pure=true∨Le y1 X.y))
 items:∀k st,zO xi k st=some us[k]?
 len:us.length=ys.length
 body:∀(k:Nat) u y,us[k]? =some u→ys[k]? =some y→BodyOk w P N fr X px elt u y
section
variable {w:World}{P:Prims}{d:Nat}{A:Around}{E:Value→Shared→Prop}{X:GX}{y0:Y}{xi:SV}{us ys:List SV}{N:Nat}{fr:FrS}{px:Pos}{elt:Expr}{s:Shared}{k n:Nat}{env:Env}
theorem GX.At.rep(h:X.At k s):∃l,X.L l∧Rep (X.z l s)∧∃o,s.heap.get? X.I=some o∧X.Ob k o:=by cases h with|mk a b c d=>exact⟨_,a,b,_,c,d⟩
structure Turn1(X:GX)(k:Nat)(s s1:Shared):Prop where
 keep:∀b o,b≠X.I→s.heap.get? b=some o→s1.heap.get? b=some o
 os:s1.os=s.os
 gens:s1.gens=s.gens
 it:∃o,s1.heap.get? X.I=some o∧X.Ob k o
theorem GLoop.next(g:GLoop w P d X y0 xi us ys N fr px elt)(hA:AOk d A)(h:X.At k s){Q:Option Value→Shared→Prop}
  (h0:us[k]? =none→∀s1,Tn y0.G X.D s (fun _=>none) s1→Q none s1)
  (h1:∀u y v s1 l,us[k]? =some u→ys[k]? =some y→Turn1 X (k+1) s s1→X.L l→Rep (X.z l s)→Ok w (X.z l s1)→VRel X.y u v→Q (some v) s1):wpAny (model pw w) A (pyNext (.ref X.I)) Q E s:=by
 obtain⟨l,hl,r,o,hI,hb⟩:=h.rep
 obtain⟨T,y1,one,le⟩:=g.one
 refine one.turn k o _ (X.z l s) A E Q hA hI hb ⟨r,g.base⟩ le (g.items k _) fun r' s1 o' hk hos hgs hr=> ?_
 have hk:∀b o,b≠X.I→s.heap.get? b=some o→s1.heap.get? b=some o:=hk
 cases e:us[k]? with
 |none=>
  rw [e]at hr
  exact hr▸h0 e s1 ⟨fun b o n _ q=>hk b o (fun c=>n (c▸ .tail _ (.head _))) q,fun b m=>let⟨o,w⟩:=r.tab b m;⟨o,hk b o (fun c=>(g.ok.oI l s).2 (c▸m)) w.at',w.tab⟩,fun _ _ q=>(nomatch q),fun _ _ q=>(nomatch q),fun _ _=>rfl,.same hos hgs⟩
 |some u=>
  rw [e]at hr
  obtain⟨v,rfl,h2,h3,h4⟩:=hr
  have hlt:k<ys.length:=g.len▸(List.getElem?_eq_some_iff.mp e).1
  have kG:∀b o,X.G b=some o→b≠X.I:=fun b o q c=>zu g.ok.gI (c▸q)
  refine h1 u _ v s1 l e (List.getElem?_eq_getElem hlt) ⟨hk,hos,hgs,o',h2,h3⟩ hl r ⟨r.to (fun b o q=>hk b o (kG b o q) (r.sub b o q)) (fun i so o h q=>hk _ o ((g.ok.oI l s).1 i so h) q) fun b m=>let⟨o,w⟩:=r.tab b m;⟨o,hk b o (fun c=>(g.ok.oI l s).2 (c▸m)) w.at',w.tab⟩,g.base⟩ h4
inductive ItemP(X:GX)(y0:Y)(s:Shared)(k:Nat)(y:SV)(v:Value)(s3:Shared):Prop
 |mk {G1 ρ1 n1}:y.pure=true→VRel ⟨G1,ρ1,n1⟩ y v→Tn y0.G X.D s G1 s3→(∀b∈X.D,∃o,s3.heap.get? b=some o)→X.At (k+1) s3→ItemP X y0 s k y v s3
theorem GLoop.item(g:GLoop w P d X y0 xi us ys N fr px elt)(hA:AOk d A)(ev:EnvOk X.y fr env){u y v s1 l}(hu:us[k]? =some u)(hy:ys[k]? =some y)(T:Turn1 X (k+1) s s1)(hl:X.L l)(r:Rep (X.z l s))(ok:Ok w (X.z l s1))(q:VRel X.y u v):
  wpAny (model pw w) A (assign (.Name X.x px) env v) (fun _ s'=>∀E,wpAny (model pw w) A (eval elt env) (ItemP X y0 s k y) E s') E s1:=by
 obtain⟨hp,hB⟩:=g.body k u y hu hy
 obtain⟨o',hI,hb⟩:=T.it
 refine W.go (ya g.S (hB l hl) (X.z l s1) env v rfl ev q) ok hA fun z2 _ _ S o2 _ k2 E=> ?_
 refine W.go (ya g.S k2 z2 env rfl (S.env ev)) o2 hA fun z3 y' v S3 o3 q3 k3=> ?_
 obtain⟨rfl,h4,hc⟩:=k3
 obtain⟨a,b,c⟩:=GX.turned g.ok hl r T.keep T.os T.gens hI hb (S.trans S3) h4 hc
 exact .mk hp q3 a b c
noncomputable abbrev gCode(elt iter:Expr)(x:Str)(px:Pos)(scope:Scope)(pos:Pos)(I:Addr)(env:Env):Code:= .compLoop (.GeneratorExp elt [⟨.Name x px,iter,[],0⟩] scope pos) 0 (.ref I) .none env
theorem GLoop.no(g:GLoop w P d X y0 xi us ys N fr px elt)(h:k+0=ys.length){u}(e:us[k]? =some u):False:=Nat.lt_irrefl k (Nat.lt_of_lt_of_le (List.getElem?_eq_some_iff.mp e).1 (g.len▸Nat.le_of_eq h.symm))
theorem GLoop.yes(g:GLoop w P d X y0 xi us ys N fr px elt)(h:k+(n+1)=ys.length)(e:us[k]? =none):False:=Nat.not_succ_le_self k (Nat.le_trans (Nat.le_trans (Nat.succ_le_succ (Nat.le_add_right k n)) (Nat.le_of_eq (h.trans g.len.symm))) (List.getElem?_eq_none_iff.mp e))
theorem seg_bind2{M:Model}{R:GenEnd}{Y:Protocol}{s₀:Shared}{c:Code}{fs:List Frame}{α β γ:Type}{m:Sem α}{K1:α→Sem β}{K:β→Sem γ}{K':γ→Sem Fin}{H':Value→Sem Fin}{gd lv}
  (h:wpAny M (A.over c fs) m (fun a s'=>Seg M A R Y n s₀ c (((K1 a>>=K)).wrap K' H' gd lv) fs s') (fun x s'=>Seg M A R Y n s₀ c (H' x) fs s') s):Seg M A R Y n s₀ c (((m>>=K1)>>=K).wrap K' H' gd lv) fs s:=by
 rw [Sem.bind_eq_wrap',Sem.bind_eq_wrap',Sem.wrap_wrap,Sem.wrap_wrap]
 refine seg_wrap (wm h fun a s' q=> ?_)
 rw [Sem.bind_eq_wrap',Sem.wrap_wrap]at q
 exact q
theorem yield_plain{v:Value}(h:env.scope.isCoroutine=false):yieldOut env v=yieldValue v:=by unfold yieldOut;rw [h];rfl
theorem seg_gx{iter:Expr}{scope:Scope}{pos:Pos}(g:GLoop w P d X y0 xi us ys N fr px elt)(ev:EnvOk X.y fr env)(hco:env.scope.isCoroutine=false)(hA:AOk d (A.over (gCode elt iter X.x px scope pos X.I env) [])):
  ∀(n k:Nat) (s:Shared),k+n=ys.length→X.At k s→Seg (model pw w) A (genE (.ok .next) y0.G X.D) (GenT y0.G ys X.D X.At) n s (gCode elt iter X.x px scope pos X.I env) ((model pw w).den (gCode elt iter X.x px scope pos X.I env)) [] s:=by
 intro n
 induction n with
 |zero=>
  intro k s hk h
  show Seg _ A _ _ _ s _ ((compTurn (.GeneratorExp elt [⟨.Name X.x px,iter,[],0⟩] scope pos) 0 (.ref X.I) .none env).onRaise (leaving env)) [] s
  rw [compTurn_gen,Sem.onRaise_eq_wrap]
  exact seg_bind_wrap (wpAny_standAt (seg_bind_wrap (g.next hA h (fun e s1 T=>seg_end (.ok .next) ⟨rfl,rfl,T⟩) fun u y v s1 l e=>(g.no hk e).elim)))
 |succ n ih=>
  intro k s hk h
  show Seg _ A _ _ _ s _ ((compTurn (.GeneratorExp elt [⟨.Name X.x px,iter,[],0⟩] scope pos) 0 (.ref X.I) .none env).onRaise (leaving env)) [] s
  rw [compTurn_gen,Sem.onRaise_eq_wrap]
  refine seg_bind_wrap (wpAny_standAt (seg_bind_wrap (g.next hA h (fun e s1 T=>(g.yes hk e).elim) fun u y v s1 l e1 e2 T hl r ok q=> ?_)))
  refine seg_bind_wrap (wpAny_of_eq (rfl:letOwnedTupleGo (.Name X.x px) (.ref X.I) v=pure ()) ?_)
  refine seg_bind_wrap (wm (g.item hA ev e1 e2 T hl r ok q) fun _ s2 h2=>seg_bind_wrap (wpAny_pure ?_))
  refine seg_bind2 (m:=eval elt env) (K1:=fun v=>standAt elt.pos>>=fun _=>yieldOut env v>>=fun _=>pure ()) (wm (h2 _) fun yv s3 p=> ?_)
  obtain⟨hp,hv,hT,hl,hA⟩:=p
  rw [yield_plain hco]
  exact seg_at (seg_yield rfl rfl rfl (.mk hk e2 hp hv hT hl hA fun s'' h''=>seg_again rfl (ih (k+1) s'' ((Nat.succ_add ..).trans hk) h'')))
end
section
variable {w:World}{P:Prims}{d:Nat}{A:Around}{E:Value→Shared→Prop}{X:GX}{y0:Y}{xi:SV}{us ys:List SV}{N:Nat}{fr:FrS}{px:Pos}{e1:Expr}{s:Shared}{k n:Nat}{env:Env}
theorem Tn.pre{G0:GH}{D:List Addr}{s0 s1:Shared}{G1:GH}(T:Tn G0 D s G1 s1)(h:∀b o,s0.heap.get? b=some o→s.heap.get? b=some o)(g:GS s0 s):Tn G0 D s0 G1 s1:=
 ⟨fun b o n m e=>T.keep b o n m (h b o e),T.tab,T.sub,fun b o e=>(T.new b o e).imp id fun q=>yW (fun x e=>⟨x,h b x e⟩) q,T.own,g.trans T.gs⟩
theorem seg_for{ypos pos:Pos}{fs:List Frame}(g:GLoop w P d X y0 xi us ys N fr px e1)(ev:EnvOk X.y fr env)(hco:env.scope.isCoroutine=false)(hi:interactive env=false)(hsp:splitAtGen fs=none)(hfg:fs.any Frame.guarded=false)
  (hA:AOk d (A.over (.forLoop (.Name X.x px) (.ref X.I) [.Expr (.Yield (some e1) ypos) pos] [] env) fs))
  (fin:∀s0 s1,Tn y0.G X.D s0 (fun _=>none) s1→Seg (model pw w) A (genE (.ok (.ret .none)) y0.G X.D) (GenT y0.G ys X.D X.At) 0 s0 (.block [] env) (leafOf (.ok .next)) fs s1):
  ∀(n k:Nat) (s0 s:Shared),(∀b o,s0.heap.get? b=some o→s.heap.get? b=some o)→GS s0 s→k+n=ys.length→X.At k s→Seg (model pw w) A (genE (.ok (.ret .none)) y0.G X.D) (GenT y0.G ys X.D X.At) n s0 (.forLoop (.Name X.x px) (.ref X.I) [.Expr (.Yield (some e1) ypos) pos] [] env) ((model pw w).den (.forLoop (.Name X.x px) (.ref X.I) [.Expr (.Yield (some e1) ypos) pos] [] env)) fs s:=by
 intro n
 induction n with
 |zero=>
  intro k s0 s h0 gs0 hk h
  show Seg _ A _ _ _ s0 _ ((forTurn (.Name X.x px) (.ref X.I) [.Expr (.Yield (some e1) ypos) pos] [] env).onRaise _) fs s
  unfold forTurn
  rw [Sem.onRaise_eq_wrap]
  exact seg_bind_wrap (wpAny_standAt (seg_bind_wrap (wpAny_onRaise (g.next hA h (fun e s1 T=>seg_again rfl (fin _ _ (T.pre h0 gs0))) fun u y v s1 l e=>(g.no hk e).elim))))
 |succ n ih=>
  intro k s0 s h0 gs0 hk h
  show Seg _ A _ _ _ s0 _ ((forTurn (.Name X.x px) (.ref X.I) [.Expr (.Yield (some e1) ypos) pos] [] env).onRaise _) fs s
  unfold forTurn
  rw [Sem.onRaise_eq_wrap]
  refine seg_bind_wrap (wpAny_standAt (seg_bind_wrap (wpAny_onRaise (g.next hA h (fun e s1 T=>(g.yes hk e).elim) fun u y v s1 l e1 e2 T hl r ok q=> ?_))))
  refine seg_bind_wrap (wpAny_of_eq (rfl:letOwnedTupleGo (.Name X.x px) (.ref X.I) v=pure ()) ?_)
  refine seg_bind_wrap (wm (g.item hA ev e1 e2 T hl r ok q) fun _ s2 h2=> ?_)
  rw [Sem.bind_eq_wrap',Sem.wrap_wrap]
  refine seg_execs_cons (seg_Expr_Yield hsp rfl hfg (wm (h2 _) fun yv s3 p=> ?_) hco hi)
  obtain⟨hp,hv,hT,hl,hA⟩:=p
  exact fun kap hkap=>.mk hk e2 hp hv (hT.pre h0 gs0) hl hA fun s'' h''=>hkap .none s'' (seg_execs_nil (seg_again rfl (ih (k+1) s'' s'' (fun _ _ e=>e) (.refl _) ((Nat.succ_add ..).trans hk) h'')))
theorem seg_start{ypos pos pfor:Pos}{it:Expr}(g:GLoop w P d X y0 xi us ys N fr px e1)(ev:EnvOk X.y fr env)(hco:env.scope.isCoroutine=false)(hi:interactive env=false)(hf:∀y,foldedSetIterable it env y=pure y)
  (hA:AOk (d+1) A) {s:Shared} (h:∀A' E Q,AOk d A'→(∀v s1,GS s s1→(∀b o,s.heap.get? b=some o→s1.heap.get? b=some o)→(∀A' E Q,AOk d A'→(∀s2,GS s s2→(∀b o,s.heap.get? b=some o→s2.heap.get? b=some o)→X.At 0 s2→Q (.ref X.I) s2)→wpAny (model pw w) A' (pyIter v) Q E s1)→Q v s1)→wpAny (model pw w) A' (eval it env) Q E s):
  Seg (model pw w) A (genE (.ok (.ret .none)) y0.G X.D) (GenT y0.G ys X.D X.At) ys.length s (.func [.For (.Name X.x px) it [.Expr (.Yield (some e1) ypos) pos] [] pfor] env) ((model pw w).den (.func [.For (.Name X.x px) it [.Expr (.Yield (some e1) ypos) pos] [] pfor] env)) [] s:=by
 refine seg_func (seg_execs_cons ?_)
 rw [exec_For]
 refine seg_bind_wrap (wpAny_standAt ?_)
 refine seg_bind_wrap (h _ _ _ (hA.of (x:=1) (y:=3) rfl rfl rfl (by decide) (by decide)) fun v s1 g1 k1 h1=>seg_bind_wrap (wpAny_of_eq (hf v) (seg_bind_wrap (wpAny_standAt (seg_bind_wrap (wpAny_holding (h1 _ _ _ (hA.of (x:=1) (y:=3) rfl rfl rfl (by decide) (by decide)) fun s2 g2 k2 hA2=> ?_)))))))
 exact seg_call fun p=>seg_for g ev hco hi rfl rfl (hA.of (x:=1) (y:=3) rfl rfl rfl (by decide) (by decide)) (fun s0 s1 T=>seg_leaf (.ok .next) (seg_end (.ok (.ret .none)) ⟨rfl,rfl,T⟩)) ys.length 0 s s2 k2 g2 (Nat.zero_add _) hA2
end
noncomputable abbrev pScope:Scope:=(mt 45 11).2.2
noncomputable abbrev fd635:FuncData:=fO "__iter__" "Profile.__iter__" (mt 45 11) [] .none .none .none (.str "abcvoting.preferences" 926) none (.ref 634) .none
noncomputable def pIt:Expr:= .Attribute (.Name "self" ⟨763,21,763,25⟩) "_voters" ⟨763,21,763,33⟩
noncomputable def pIter:List Stmt:=[.For (.Name "voter" ⟨763,12,763,17⟩) pIt [.Expr (.Yield (some (.Name "voter" ⟨764,18,764,23⟩)) ⟨764,12,764,23⟩) ⟨764,12,764,23⟩] [] ⟨763,8,764,23⟩]
noncomputable def pFr:FrS:=⟨4,[],pScope,.ref 634⟩
theorem p_fine(w:World):fdOf w.params 635=some fd635∧fd635.body= .stmts pIter∧pScope.isGenerator=true∧pScope.isCoroutine=false∧srcs w.params (635,1,[])=some [(("self":Str),Src.arg 0)]:=⟨by kernel_rfl,by kernel_rfl,by kernel_rfl,by kernel_rfl,by kernel_rfl⟩
theorem p_find(w:World):findIn (KH w.params) (.ref 666) "__iter__"=some (some (.ref 635))∧isFn (KH w.params) (.ref 635)=true:=⟨by kernel_rfl,by kernel_rfl⟩
theorem p_env(x:SV)(K:FrS→St→Prop):newF (.ref 634) pScope [] "frame" [("self",x)] st0 K=K pFr ⟨[(4,.ns "frame" [("self",x)])],5⟩:=by kernel_rfl
noncomputable abbrev pSt(x:SV):St:=⟨[(4,.ns "frame" [("self",x)])],5⟩
noncomputable def vL(x:SV):Option (List SV):=match x with
 | .vlist vs=>some vs
 |_=>none
noncomputable def asProf(x:SV):Option (List SV):=match x with
 | .vinst C fs=>zj (Nat.beq C 666) ((fs.lookup ("_voters":Str)).bind vL)
 |_=>none
noncomputable def iterP:IterH:=fun x st=>(asProf x).bind fun vs=>zj x.pure (some fun K=>K (.vlist vs) st)
theorem asProf_ok{x:SV}{vs:List SV}{st:St}(h:asProf x=some vs):attX x "_voters" st=some (666,some (.vlist vs))∧∃fs,x= .vinst 666 fs∧fs.lookup ("_voters":Str)=some (.vlist vs):=by
 induction x using SV.casesOn with
 |vinst C fs=>
  obtain⟨e,h⟩:=zv h
  obtain⟨sv,e1,h⟩:=zz h
  cases Nat.eq_of_beq_eq_true e
  induction sv using SV.casesOn with
  |vlist us=>cases h;exact⟨congrArg (fun o=>some (666,o)) e1,_,rfl,e1⟩
  |_=>exact(zu rfl h).elim
 |_=>exact(zu rfl h).elim
noncomputable def pX(G:GH)(ρ:Nat→Addr)(p:Value)(I:Addr)(vs:List SV):GX:=⟨5,G,ρ,[],"frame",by decide,("self",p),"voter",I,LiOb ⟨G,ρ,5⟩ (.vlist vs)⟩
noncomputable abbrev pV(w:World)(u:SV)(st:St)(K:KV):Prop:=vc w (P0 w) 9 (.A (.Name "voter" ⟨763,12,763,17⟩) u pFr st fun st2=>vc w (P0 w) 9 (.E (.Name "voter" ⟨764,18,764,23⟩) pFr st2 K))
theorem p_body1(w:World)(u:SV)(p:Value)(K:KV):pV w u (pSt (.top p)) K=K u ⟨[(4,.ns "frame" [("self",.top p),("voter",u)])],5⟩:=by kernel_rfl
theorem p_body2(w:World)(u:SV)(p v:Value)(K:KV):pV w u ⟨[(4,.ns "frame" [("self",.top p),("voter",.top v)])],5⟩ K=K u ⟨[(4,.ns "frame" [("self",.top p),("voter",u)])],5⟩:=by kernel_rfl
section
variable {w:World}{d:Nat}{G:GH}{ρ:Nat→Addr}{p:Value}{I:Addr}{vs:List SV}{s:Shared}{k:Nat}{y0:Y}{z:Z}{A:Around}{E:Value→Shared→Prop}
theorem p_body(u:SV)(hp:u.pure=true):BodyOk w (P0 w) 9 pFr (pX G ρ p I vs) ⟨763,12,763,17⟩ (.Name "voter" ⟨764,18,764,23⟩) u u:=by
 refine⟨hp,fun l hl=> ?_⟩
 cases hl with
 |one=>exact(p_body1 w u p _).mpr ⟨rfl,rfl,fun _ _ h=>nomatch h⟩
 | @two v=>exact(p_body2 w u p v _).mpr ⟨rfl,rfl,fun _ _ h=>nomatch h⟩
theorem p_loop(hX:(pX G ρ p I vs).Ok y0)(hB:Base w G)(q:zt vs=true):GLoop w (P0 w) d (pX G ρ p I vs) y0 (.vlist vs) vs vs 9 pFr ⟨763,12,763,17⟩ (.Name "voter" ⟨764,18,764,23⟩):=
 ⟨P0_ok w d,hX,hB,⟨_,_,one_list (y:=(pX G ρ p I vs).y) (st:=st0) (x:= .vlist vs) rfl,fun _ _ e=>e,.inl rfl⟩,fun _ _=>rfl,rfl,fun k u y e e'=>Option.some.inj (e.symm.trans e')▸p_body u (xk q e)⟩
noncomputable def pR(G:GH)(ρ:Nat→Addr)(x:SV)(k:Nat)(s:Shared):Prop:=k=0∧Rep ⟨G,ρ,pSt x,s⟩
theorem own4{so so':SO}{i n:Nat}(h:Has ⟨[(4,so)],n⟩ i so'):i=4∧so'=so:=
 have h:=(zn ..).symm.trans h
 if e:i=4 then⟨e,(Option.some.inj ((if_pos e).symm.trans h)).symm⟩else nomatch (if_neg e).symm.trans h
theorem p_rest{x:SV}(hG:∀b o,G b=some o→y0.G b=some o){a:Addr}:Rest y0 [a,ρ 4] (pR G ρ x):=fun k s s' h hk hy ht _=>
 ⟨h.1,h.2.to (fun b o e=>hy b o (hG b o e)) (fun i so o h e=>(own4 h).1▸hk (ρ 4) o (.tail _ (.head _)) ((own4 h).1▸e)) ht⟩
theorem p_eval{env:Env}{x:SV}(hx:asProf x=some vs)(ev:EnvOk ⟨G,ρ,5⟩ pFr env)(ok:Ok w ⟨G,ρ,pSt x,s⟩){Q:Value→Shared→Prop}(hQ:∀u tk,VRel ⟨G,ρ,5⟩ (.vlist vs) u→Q u {s with toks:=tk}):wpAny (model pw w) A (eval pIt env) Q E s:=by
 unfold pIt
 rw [arm_eval_Attribute,wV rfl]
 exact wpAny_bind (wpAny_Name (yX (z:=⟨G,ρ,pSt x,s⟩) (v:=x) rfl ok ev fun p q=>wpAny_bind (wpAny_standAt (wpAny_bind (wpAny_holding (att_get (z:=⟨G,ρ,pSt x,s⟩) (asProf_ok hx).1 (by kernel_rfl) rfl rfl ok q fun u tk q=>wpAny_bind (wpAny_letTemporaryGo (wpAny_pure (hQ u tk q)))))))) (by decide))
theorem p_wake{env:Env}{x:SV}{a:Addr}(hx:asProf x=some vs)(hG:∀b o,G b=some o→y0.G b=some o)(hB:Base w G)(ev:EnvOk ⟨G,ρ,5⟩ pFr env)(hco:env.scope.isCoroutine=false)(hi:interactive env=false)(hCa:ρ 4≠a)(hp:zt vs=true)(hA:AOk (d+2) (Amx (d+2)))(h:pR G ρ x k s):GenW w (d+2) a y0 vs (.ok (.ret .none)) vs.length [a,ρ 4] (.fresh (.func pIter env)) s:=by
 have r:=h.2
 have hk:∀{b o} {f},s.heap.get? b=some o→(s.heap.push f).get? b=some o:=fun e=>Heap.get?_push_of_some _ e
 obtain⟨o,wo⟩:=r.own 4 _ rfl
 obtain⟨l,n,f⟩:=wo.rel
 replace f:=f.ex.resolve_left (by decide)
 obtain⟨⟨k1,p⟩,rest,rfl⟩:=List.exists_cons_of_length_eq_add_one f.length.symm
 obtain rfl:=List.eq_nil_of_length_eq_zero (Nat.succ.inj f.length.symm)
 obtain⟨e1,q1⟩:=f.get 0 _ rfl
 obtain rfl:(("self":Str))=k1:=e1
 obtain⟨d1,d2⟩:=r.aside (zh s.heap)
 have hX:(pX G ρ p s.heap.objs.size vs).Ok y0:=⟨hG,fun _ _ h=>(nomatch h),d1,fun l s'=>⟨fun i so h=>(own4 h).1▸d2.1 4 _ rfl,d2.2⟩⟩
 refine .mk (Dr:=(pX G ρ p s.heap.objs.size vs).D) (R:=(pX G ρ p s.heap.objs.size vs).At) (List.forall_mem_cons.mpr ⟨.inl ⟨.tail _ (.head _),hCa⟩,List.forall_mem_cons.mpr ⟨.inr (zh _),fun _ h=>nomatch h⟩⟩) hX.rest ⟨rfl,?_⟩
 refine seg_start (A:=(Amx (d+2)).in1) (d:=d) (p_loop hX hB hp) ev hco hi (fun _=>rfl) (hA.of (A':=(Amx (d+2)).in1) (x:=0) (y:=1) rfl rfl rfl (by decide) (by decide)) fun A' E Q hA' hQ=>p_eval hx ev ⟨r,hB⟩ fun u tk q=> ?_
 obtain⟨_,⟨g3,g4⟩⟩:=q.inv
 refine hQ _ _ (.same rfl rfl) (fun _ _ e=>e) fun A' E Q hA' hQ=>wpAny_pyIter_list (s:={s with toks:=tk}) (zU (r.sub _ _ g3)) (hQ _ (.same rfl rfl) (fun _ _ e=>hk e) (.mk (l:=[("self",p)]) .one ⟨fun b o e=>hk (r.sub b o e),fun i so h=> ?_,fun i j so so' h1 h2 _=>(own4 h1).1.trans (own4 h2).1.symm,fun b m=>let⟨o,w⟩:=r.tab b m;⟨o,hk w.at',w.tab,w.gn,fun i so h=>(own4 h).1▸w.ow 4 _ rfl⟩⟩ (Heap.get?_push_size _ rfl) ⟨_,q,rfl,rfl⟩))
 obtain⟨rfl,rfl⟩:=own4 h
 exact⟨o,wo.lt,wo.gn,hk wo.hp,.ns n (tops_ok _).n⟩
theorem inter_no{env:Env}(h:env.scope.kind= .function):interactive env=false:=by unfold interactive;rw [h];rfl
theorem gs_push{s:Shared}{gs:GenState}{h:Heap}{tk:Tok}(hb:gs.bare=true):GS s {s with heap:=h,gens:=s.gens.push gs,toks:=tk}:=
 ⟨rfl,fun g _ e=>(Array.getElem?_push_lt (Array.getElem?_eq_some_iff.mp e).1).trans ((Array.getElem?_eq_getElem (Array.getElem?_eq_some_iff.mp e).1).symm.trans e),fun b y m=>(Array.mem_push.mp m).elim (b y) fun q=>q▸hb⟩
theorem GS.size{s s':Shared}(h:GS s s'):s.gens.size≤s'.gens.size:=Nat.not_lt.mp fun q=>zu (Array.getElem?_eq_none (Nat.le_refl _)) (h.gens _ _ (Array.getElem?_eq_getElem q))
theorem iterP_ok:IterOk w (d+2) iterP:=fun x t K z v A E e k q ha ok=>by
 obtain⟨vs,e1,e⟩:=zz e
 obtain⟨px,e⟩:=zv e
 cases e
 obtain⟨_,fs,rfl,el⟩:=asProf_ok (st:=z.st) e1
 obtain @⟨pa,dx,od,l,g1,g2,_,f⟩:=q.inv
 obtain⟨_,_,qv⟩:=f.lookup _ el
 obtain⟨p1,p2,p3,p4,p6⟩:=p_fine w
 have F:=fn_open (w:=w) (z:=z) (a:=635) (xs:=[.vinst 666 fs]) (vs:=[.ref pa]) (ks:=[]) (kvs:=[]) (show fnT.elem (635,1,[])=true by kernel_rfl) p1 p6 ok (.cons q .nil) .nil
 obtain⟨o,h1,h2⟩:=F.ob
 refine pyIter_own ok.kin (yo (ok.rep.sub _ _ g1) (ok.rep.sub _ _ g2)) (f:=635) (p_find w).1 (p_find w).2 (wpAny_call (codeAny_call_generator ha.room h1 h2 p4 p3 p2 F.cd (F.bind.here ?_)))
 refine newEnv_ok (z:=z.to st0) (cl:=[]) (around:=none) (K:=fun fr st=>fr=pFr∧st=⟨[(4,.ns "frame" [("self",.vinst 666 fs)])],5⟩) (c:="frame") (bs:=[("self",.vinst 666 fs)]) ((p_env _ _).mpr ⟨rfl,rfl⟩) F.kind F.gl F.bu (ok.rep.inner 4) F.cl (fun _ q=>nomatch q) (.cons (q.move px) .nil) fun env fr z1 S ev ne k1=> ?_
 obtain⟨G1,ρ1,st1,s1⟩:=z1
 obtain⟨rfl,rfl⟩:=k1
 have o1:=S.ok (w:=w) ⟨ok.rep.inner 4,ok.base⟩
 have S1:=S.outer ok.rep
 have ha0:=zh s1.heap
 have hp:∀{b o},s1.heap.get? b=some o→(s1.heap.push {cls:= .type "generator",data:= .fields #[.int s1.gens.size 0,.str fd635.name s1.toks,.str fd635.qualname (s1.toks+1)]}).get? b=some o:=fun e=>Heap.get?_push_of_some _ e
 have r1:Rep ⟨G1,ρ1,pSt (.vinst 666 fs),s1⟩:=o1.rep
 obtain⟨oC,wC⟩:=r1.own 4 _ rfl
 have hCd:z.s.heap.get? (ρ1 4)=none:=(show env.locals=ρ1 4 from ev.locals)▸ne.dead
 have hCa:ρ1 4≠s1.heap.objs.size:=fun q=>zu ha0 (q▸(show s1.heap.get? (ρ1 4)=some oC from wC.hp))
 refine⟨xU o1.kin,"generator",_,⟨_,Heap.get?_push_size _ rfl,rfl⟩,slot_gen_next.lookup,?_⟩
 refine .mk (z':=⟨G1,z.ρ,z.st,_⟩) (.mk (D:=[s1.heap.objs.size,ρ1 4]) (g0:=s1.gens.size) (y0:=⟨G1,z.ρ,z.st.nx⟩) (I:=GenI w (d+2) s1.heap.objs.size s1.gens.size ⟨G1,z.ρ,z.st.nx⟩ vs (.ok (.ret .none))) (S1.trans (S1.rep.grow (fun b o e=>hp e) (gs_push rfl))) (GenI.iter (.inr rfl) fun _ _=>rfl) S.gs.size (List.forall_mem_cons.mpr ⟨⟨S1.dead ha0,S1.rep.aside ha0⟩,List.forall_mem_cons.mpr ⟨⟨hCd,wC.gn,(ok.rep.aside hCd).2⟩,fun _ h=>nomatch h⟩⟩) (.refl _) ?_) k
 exact .mk (R:=pR G1 ρ1 (.vinst 666 fs)) (gs:= .fresh (.func pIter env)) (n:=vs.length) (.head _) ⟨_,_,_,Heap.get?_push_size _ rfl,rfl,rfl,rfl⟩ (p_rest fun _ _ e=>e) ⟨rfl,r1.to (fun b o e=>hp (r1.sub b o e)) (fun i so o h e=>hp e) fun b m=>let⟨o,w⟩:=r1.tab b m;⟨o,hp w.at',w.tab⟩⟩ Array.getElem?_push_size (Nat.zero_add _) (List.forall_mem_cons.mpr ⟨⟨_,Heap.get?_push_size _ rfl⟩,List.forall_mem_cons.mpr ⟨⟨_,hp wC.hp⟩,fun _ h=>nomatch h⟩⟩) fun s'' h=>p_wake e1 (fun _ _ e=>e) o1.base ev ((show env.scope=pScope from ev.scope)▸p4) (inter_no ev.fn) hCa qv.inv.1 ha.amx.1 h
end
noncomputable def fieldsO:Data→Array Value
 | .fields vs=>vs
 |_=> #[]
noncomputable def codeVs(P:Params)(a:Addr):Array Value:=fieldsO (((KH P).lookup a).getD emptyD).data
structure CodeO(P:Params)(a b:Addr)(t:Tok):Prop where
 at':(KH P).lookup a=some ⟨.type "code",none,.fields (codeVs P a),#[]⟩
 v11:(codeVs P a)[11]? =some (.ref b)
 v18:(codeVs P a).getD 18 .none= .str "/claim/cut.py" t
 v7:(codeVs P a).getD 7 .none= .int 3 0
 v9:(codeVs P a).getD 9 .none= .bool true
 v10:(codeVs P a).getD 10 .none= .int 181 0
 ne:a≠b
 mem:b∈bases
theorem code29(P:Params):CodeO P 29 25 205:=⟨by kernel_rfl,by kernel_rfl,by kernel_rfl,by kernel_rfl,by kernel_rfl,by kernel_rfl,by decide,by decide⟩
theorem code36(P:Params):CodeO P 36 32 212:=⟨by kernel_rfl,by kernel_rfl,by kernel_rfl,by kernel_rfl,by kernel_rfl,by kernel_rfl,by decide,by decide⟩
theorem code44(P:Params):CodeO P 44 40 222:=⟨by kernel_rfl,by kernel_rfl,by kernel_rfl,by kernel_rfl,by kernel_rfl,by kernel_rfl,by decide,by decide⟩
section
variable {w:World}{P:Prims}{d:Nat}{A:Around}{E:Value→Shared→Prop}{z:Z}{a b:Addr}{t:Tok}{env:Env}{fr:FrS}{s:Shared}{o:Obj}
theorem code_at(ok:Ok w z)(h:CodeO w.params a b t):∃ps,TriplesOk ps.toList∧z.s.heap.IsCode a b ps∧z.s.heap.TableAt a b ps:=by
 obtain⟨_,e,⟨ht⟩,_,_⟩:=ok.rep.tab b h.mem
 have ea:=ok.kin _ _ h.at'
 exact⟨_,ht,⟨_,_,_,_,_,_,_,_,_,_,ea,rfl,(Array.getD_eq_getD_getElem? ..).trans (congrArg (·.getD Value.none) h.v11),h.v18,h.v7,h.v9,h.v10,e,rfl,ht,h.ne⟩,⟨_,_,ea,rfl,rfl,h.v11⟩,e⟩
theorem Rep.tabT(r:Rep z)(m:b∈bases)(hk:∀c o,c≠b→z.At c o→s.heap.get? c=some o)(ho:s.heap.get? b=some o)(ht:TabO o)(g:GS z.s s):Step z (z.sh s):=
 have own:∀i so o,Has z.st i so→z.At (z.ρ i) o→s.heap.get? (z.ρ i)=some o:=fun i so o h e=>hk _ o (fun q=>let⟨_,w⟩:=r.tab b m;w.ow i so h q) e
 ⟨r.to (fun c o e=>hk c o (fun q=>(r.frozen e).2 (q▸m)) (r.sub c o e)) own fun c mc=>if q:c=b then⟨o,q▸ho,ht⟩else let⟨o',w⟩:=r.tab c mc;⟨o',hk c o' q w.at',w.tab⟩,.refl _,fun c o e n=>⟨hk c o (fun q=>n.2 (q▸m)) e,n,rfl⟩,fun i so h=>let⟨o,e⟩:=r.live h;⟨⟨o,e⟩,o,own i so o h e⟩,g⟩
theorem gx_code{pos:Pos}{q:Str}{scope:Scope}{Q:Value→Shared→Prop}(ok:Ok w z)(h:CodeO w.params a b t)(he:env.code= .ref a)(hQ:∀code h' tk,Step z (z.sh {z.s with heap:=h',toks:=tk})→Q code {z.s with heap:=h',toks:=tk}):wpAny (model pw w) A (genexprCode env pos q scope) Q E z.s:=by
 obtain⟨ps,hp,hc,ht⟩:=code_at ok h
 cases hf:codeAmong pos ps.toList with
 |some c'=>exact wpAny_genexprCode_hit he hc hf (hQ c' z.s.heap z.s.toks (.refl ok.rep))
 |none=>exact wpAny_genexprCodeX he hc ht hf fun c' h' tk h1 _ _ _ _ h3 _=>hQ _ h' tk (ok.rep.tabT h.mem (fun c o n e=>h1 c o n e) h3.2 (.mk (Array.toList_append▸TriplesOk_snoc _ _ _ _ hp)) (.same rfl rfl))
theorem builtins_K{running:Addr}{Q:Addr→Shared→Prop}(X:(KH w.params).In s.heap)(h:Q builtinsNs s):wpAny (model pw w) A (builtinsFor mainGlobals running) Q E s:=by
 unfold builtinsFor
 refine wpAny_bind ((looks_nsIn X (show nsIn (KH w.params) 3 "__builtins__"=some (some (.ref 4)) by kernel_rfl)).here ?_)
 exact wpAny_bind (m:=load 4) (wpAny_load (X 4 ⟨.type "module",some 0,.plain,[].toArray⟩ (by kernel_rfl)) (wpAny_pure h))
end
section
variable {z:Z}
noncomputable abbrev Cap:=Option (Str×Nat×SV)
noncomputable def capCl:Cap→List (Str×Nat)
 |none=> []
 |some p=> [(p.1,p.2.1)]
noncomputable def capIn:Cap→List (Str×Nat)
 |none=> []
 |some p=> [(p.1,5)]
noncomputable def capO(o:Obj):Cap→List (Nat×SO)
 |none=> []
 |some p=> [(5,.cellF p.2.2 o)]
noncomputable def capA(z:Z):Cap→Addr
 |none=>0
 |some p=>z.ρ p.2.1
noncomputable def zD(st:St):Cap→St
 |none=>st
 |some p=>st.drop p.2.1
noncomputable def capHas(st:St):Cap→Prop
 |none=>True
 |some p=>Has st p.2.1 (.cell (some p.2.2))∧p.2.2.pure=true
structure CapD(zd:Z)(G':GH)(c:Cap)(o:Obj)(ca:Addr):Prop where
 ext:∀b o,zd.G b=some o→G' b=some o
 new:∀b o,G' b=some o→zd.G b=some o∨(zd.At b o∧zd.Out b)
 cell:∀i so,(capO o c).lookup i=some so→i=5∧∃v,so= .cellF v o∧G' ca=some o∧zd.G ca=none∧ca∉bases∧∃u,o.data= .cell (some u)∧∀y:Y,(∀b o,zd.G b=some o→y.G b=some o)→VRel y v u
theorem capI(r:Rep z):∀c:Cap,capHas z.st c→∃G' o,CapD (z.to (zD z.st c)) G' c o (capA z c)∧Step z (z.to (zD z.st c))∧Step z ⟨G',z.ρ,zD z.st c,z.s⟩
 |none,_=>⟨z.G,emptyD,⟨fun _ _ e=>e,fun _ _ e=>.inl e,fun _ _ h=>(nomatch h)⟩,.refl r,.refl r⟩
 |some (n,i,v),h=>by
  obtain⟨h,hp⟩:=h
  obtain⟨o,wo⟩:=r.own i _ h
  obtain⟨u,e,hu⟩:=wo.rel
  obtain⟨u,rfl,hu1⟩:=hu v rfl
  have nb:z.ρ i∉bases:=fun m=>let⟨_,w⟩:=r.tab _ m;w.ow i _ h rfl
  refine⟨xm z.G (z.ρ i) o,o,⟨setG_ext wo.gn,fun b p e=> ?_,fun j so c=> ?_⟩,r.forget i,r.freeze h wo.hp⟩
  ·by_cases q:b=z.ρ i
   ·cases (if_pos q).symm.trans e
    exact .inr (q▸⟨wo.hp,fun j so e q=>(yk e).1 (r.inj _ _ _ _ (yk e).2 h q),nb⟩)
   ·exact .inl ((if_neg q).symm.trans e)
  ·have c:=(zn ..).symm.trans c
   by_cases q:j=5
   ·cases (if_pos q).symm.trans c
    exact⟨q,v,rfl,if_pos rfl,wo.gn,nb,u,e,fun y k=>hu1.mv k (.inl hp)⟩
   ·exact nomatch (if_neg q).symm.trans c
noncomputable def gxρ(C ca:Addr)(j:Nat):Addr:=if j=4 then C else ca
theorem capEnv(z:Z)(C:Addr):∀c:Cap,atA z.ρ (capCl c)=(capIn c).map fun p=>(p.1,gxρ C (capA z c) p.2)
 |none=>rfl
 |some _=>rfl
theorem capLt:∀c:Cap,∀p∈capIn c,p.2<6
 |none=>fun _ h=>nomatch h
 |some _=>fun p h=>List.mem_singleton.mp h▸(show 5<6 by decide)
theorem Step.more{G':GH}{s:Shared}(S:Step z (z.sh s))(he:∀b o,z.G b=some o→G' b=some o)(hn:∀b o,G' b=some o→z.G b=some o∨(z.At b o∧z.Out b)):Step ⟨G',z.ρ,z.st,z.s⟩ ⟨G',z.ρ,z.st,s⟩:=
 have gn:∀{b},z.G b=none→¬z.Out b→G' b=none:=fun{b} e n=>yW (fun o q=>(hn b o q).elim (fun q=>⟨o,q⟩) fun q=>(n q.2).elim) e
 have le:Le z.y ⟨G',z.ρ,z.st.nx⟩:=⟨Nat.le_refl _,fun _ _=>rfl,he⟩
 ⟨⟨fun b o e=>(hn b o e).elim (S.rep.sub b o) fun q=>(S.out b o q.1 q.2).1,fun i so h=>let⟨o,w⟩:=S.rep.own i so h;⟨o,w.lt,gn w.gn fun q=>q.1 i so h rfl,w.hp,w.rel.mono le⟩,S.rep.inj,fun b m=>let⟨o,w⟩:=S.rep.tab b m;⟨o,w.at',w.tab,gn w.gn fun q=>q.2 m,w.ow⟩⟩,.refl _,fun b o e n=>let⟨p,q,_⟩:=S.out b o e n;⟨p,q,rfl⟩,S.own,S.gs⟩
end
noncomputable def gxX(G:GH)(ρ:Nat→Addr)(o:Obj)(c:Cap)(x:Str)(it:Value)(I:Addr)(Ob:Nat→Obj→Prop):GX:=⟨6,G,ρ,capO o c,"dict",by decide,(".0",it),x,I,Ob⟩
noncomputable def GxB(w:World)(P:Prims)(N:Nat)(scope:Scope)(c:Cap)(x:Str)(px:Pos)(elt:Expr)(u y:SV):Prop:=∀code G ρ o it I Ob,BodyOk w P N ⟨4,capIn c,scope,code⟩ (gxX G ρ o c x it I Ob) px elt u y
structure GxS(w:World)(fr:FrS)(st:St)(scope:Scope)(c:Cap)(y:Str)(xv:SV):Prop where
 code:∃a b t,fr.code= .ref a∧CodeO w.params a b t
 co:scope.isCoroutine=false
 kind:scope.kind= .function
 clos:closF fr scope.names []=some (capCl c)
 cell:∀y∈scope.names,y.2≠ .cell
 n0:scope.names.lookup (".0":Str)=some NameKind.local
 has:capHas st c
 rd:y6 fr (zD st c) y=some xv
 yd:(y=="__debug__")=false
section
variable {w:World}{P:Prims}{d N:Nat}{A:Around}{E:Value→Shared→Prop}{z:Z}{env:Env}{fr:FrS}{scope:Scope}{c:Cap}{x y:Str}{xv:SV}{px py pos:Pos}{elt:Expr}{K:KV}{f:SV→St→Tr}{t:KV→Prop}
theorem seg_gx_start{X:GX}{y0:Y}{us ys:List SV}(g:GLoop w P d X y0 xv us ys N fr px elt)(ev:EnvOk X.y fr env)(hco:env.scope.isCoroutine=false)(hA:AOk (d+1) A){s:Shared}(h:X.At 0 s):
  Seg (model pw w) A (genE (.ok .next) y0.G X.D) (GenT y0.G ys X.D X.At) ys.length s (.compStart (.GeneratorExp elt [⟨.Name X.x px,.Name y py,[],0⟩] scope pos) 0 (.ref X.I) .none env) ((model pw w).den (.compStart (.GeneratorExp elt [⟨.Name X.x px,.Name y py,[],0⟩] scope pos) 0 (.ref X.I) .none env)) [] s:=by
 have loop:=seg_gx (iter:= .Name y py) (scope:=scope) (pos:=pos) g ev hco (hA.of (x:=1) (y:=3) rfl rfl rfl (by decide) (by decide)) ys.length 0 s (Nat.zero_add _) h
 obtain⟨T,y1,one,_⟩:=g.one
 obtain⟨_,_,_,o,hI,hb⟩:=h.rep
 show Seg _ A _ _ _ s _ ((compStart (.GeneratorExp elt [⟨.Name X.x px,.Name y py,[],0⟩] scope pos) 0 (.ref X.I) .none env).onRaise (leaving env)) [] s
 unfold compStart
 rw [Sem.onRaise_eq_wrap]
 refine seg_bind_wrap (m:=ask) (wpAny_askSetting ?_)
 split
 ·exact seg_again rfl loop
 ·exact seg_bind_wrap (wpAny_rule (seg_bind_wrap (wpAny_standAt (seg_bind_wrap (one.self 0 o s _ _ _ hI hb (seg_again rfl loop))))))
structure GxE(w:World)(P:Prims)(d N:Nat)(scope:Scope)(c:Cap)(x:Str)(px:Pos)(elt:Expr)(x1:SV)(us ys:List SV):Prop where
 S:Sound w P d
 pure:x1.pure=true
 items:∀k st,zO x1 k st=some us[k]?
 len:us.length=ys.length
 body:∀(k:Nat) u y,us[k]? =some u→ys[k]? =some y→GxB w P N scope c x px elt u y
theorem look1(k:Str)(v:Value)(y:Str):(if y=k then some v else none)=List.lookup y [(k,v)]:=by
 rw [List.lookup_cons]
 by_cases e:y=k
 ·rw [if_pos e,e,beq_self_eq_true]
 ·rw [if_neg e,beq_false_of_ne e];rfl
theorem gx_first{G':GH}{oc:Obj}{ca C I:Addr}{o0 oC:Obj}{Ob:Nat→Obj→Prop}{s5:Shared}(D:CapD z G' c oc ca)(okd:Ok w z)(S5:Step ⟨G',z.ρ,z.st,z.s⟩ ⟨G',z.ρ,z.st,s5⟩)(hCd:z.s.heap.get? C=none)(hId:z.s.heap.get? I=none)(hCI:C≠I)
  (eC:s5.heap.get? C=some oC) (nC:xt oC fun y=>List.lookup y [((".0":Str),.ref I)]) (eI:s5.heap.get? I=some o0) (h0:Ob 0 o0):(gxX z.G (gxρ C ca) oc c x (.ref I) I Ob).Ok ⟨G',z.ρ,z.st.nx⟩∧(gxX z.G (gxρ C ca) oc c x (.ref I) I Ob).At 0 s5:=by
 obtain⟨gC,oCo⟩:=okd.rep.aside hCd
 obtain⟨gI,oI⟩:=okd.rep.aside hId
 have nG:∀{b},z.s.heap.get? b=none→G' b=none:=fun e=>yW (fun o q=>(D.new _ o q).elim (fun q=>⟨o,okd.rep.sub _ o q⟩) fun q=>⟨o,q.1⟩) e
 have cell:∀i so,(capO oc c).lookup i=some so→i=5∧∃v,so= .cellF v oc∧G' (gxρ C ca i)=some oc∧z.G (gxρ C ca i)=none∧gxρ C ca i∉bases∧∃u,oc.data= .cell (some u)∧∀y:Y,(∀b o,z.G b=some o→y.G b=some o)→VRel y v u:=fun i so h=>let⟨e,w⟩:=D.cell i so h;⟨e,e▸w⟩
 have ne:∀{l i so b},z.s.heap.get? b=none→C≠b→Has ((gxX z.G (gxρ C ca) oc c x (.ref I) I Ob).st l) i so→gxρ C ca i≠b:=fun hb h q=>(GX.own q).elim (fun q=>q.1▸h) fun q=>let⟨_,_,_,g,_⟩:=cell _ _ q.1;fun e=>zu (nG hb) (e▸g)
 refine⟨⟨D.ext,fun i so h=>let⟨_,v,e2,g,_⟩:=cell i so h;⟨v,oc,e2,g⟩,gI,fun l s=>⟨fun i so h=>ne hId hCI h,oI.2⟩⟩,.mk .one ⟨fun b o e=>S5.rep.sub b o (D.ext b o e),fun i so h=> ?_,fun i j so so' h1 h2 e=> ?_,fun b m=>let⟨o,w⟩:=S5.rep.tab b m;⟨o,w.at',w.tab,yW (fun o q=>⟨o,D.ext b o q⟩) w.gn,fun i so h=> ?_⟩⟩ eI h0⟩
 ·rcases GX.own h with⟨rfl,rfl⟩|⟨q,_⟩
  ·exact⟨oC,show 4<6 by decide,gC,eC,.ns nC (tops_ok _).n⟩
  ·obtain⟨rfl,v,rfl,g,gn,_,u,e,k⟩:=cell i so q
   exact⟨oc,show 5<6 by decide,gn,S5.rep.sub _ _ g,rfl,u,e,k _ fun _ _ e=>e⟩
 ·rcases GX.own h1 with q|q<;>rcases GX.own h2 with r|r
  ·exact q.1.trans r.1.symm
  ·exact(zu (nG hCd) ((show gxρ C ca j=C from e.symm.trans (q.1▸rfl))▸(let⟨_,_,_,g,_⟩:=cell _ _ r.1;g))).elim
  ·exact(zu (nG hCd) ((show gxρ C ca i=C from e.trans (r.1▸rfl))▸(let⟨_,_,_,g,_⟩:=cell _ _ q.1;g))).elim
  ·exact(cell _ _ q.1).1.trans (cell _ _ r.1).1.symm
 ·rcases GX.own h with q|q
  ·exact q.1▸fun e=>oCo.2 ((show C=b from e)▸m)
  ·exact let⟨_,_,_,_,_,n,_⟩:=cell _ _ q.1;fun e=>n ((show gxρ C ca i=b from e)▸m)
noncomputable def GenPost(w:World)(d:Nat)(K:KV)(z:Z)(it:Value)(s:Shared):Prop:=IterPost w d K z it s∧∃a o,it= .ref a∧s.heap.get? a=some o∧o.cls= .type "generator"
theorem gx_core{G':GH}{oc:Obj}{ca:Addr}{us ys:List SV}{x1:SV}{T:String}{Ob:Nat→Obj→Prop}{o0:Obj}{a b:Addr}{tk:Tok}{cl:List (Str×Addr)}(e:GxE w P d N scope c x px elt x1 us ys)(D:CapD z G' c oc ca)(ok:Ok w z){z0:Z}(S0:Step z0 ⟨G',z.ρ,z.st,z.s⟩)(one:One w d x1 T z.y z.new Ob)(hf0:o0.isFreed=false)(h0:Ob 0 o0)(k:K (.vlist ys) z.st)
  (hcode:CodeO w.params a b tk) (hc:env.code= .ref a) (hg:env.globals=mainGlobals) (hcl:∀C,cl=(capIn c).map fun p=>(p.1,gxρ C ca p.2)) (hco:scope.isCoroutine=false) (hk:scope.kind= .function) (ha:AOk (d+2) A):
  wpAny (model pw w) A (genexprCode env pos (env.qual++ "<genexpr>") scope) (fun code s₃=>wpAny (model pw w) A (builtinsFor env.globals env.builtins) (fun bi s₄=>
    ∀h',h'.Ns s₄.heap.objs.size (fun y=>if y=".0" then some (.ref z.new)else none)→Heap.SameBut s₄.heap.objs.size (s₄.heap.push {cls:= .type "frame",data:= .dict #[]}) h'→
     GenPost w (d+2) K z0 (.ref h'.objs.size) {s₄ with
      gens:=s₄.gens.push (.fresh (.compStart (.GeneratorExp elt [⟨.Name x px,.Name y py,[],0⟩] scope pos) 0 (.ref z.new) .none (genEnv scope cl s₄.heap.objs.size code bi env))),
      toks:=s₄.toks+1+1+1,
      heap:=h'.push {cls:= .type "generator",data:= .fields #[.int s₄.gens.size 0,.str "<genexpr>" (s₄.toks+1),.str (env.qual++ "<genexpr>") (s₄.toks+1+1)]}}) E s₃) E {z.s with heap:=z.s.heap.push o0}:=by
 have S2:Step z (z.hp (z.s.heap.push o0)):=ok.rep.grow (s:={z.s with heap:=z.s.heap.push o0}) (fun _ _ e=>Heap.get?_push_of_some _ e) .heap
 refine gx_code (S2.ok ok) hcode hc fun code h3 tk S23=> ?_
 have S3:=S2.trans S23
 refine hg▸builtins_K (s:={z.s with heap:=h3,toks:=tk}) (S3.ok ok).kin fun h4 hns hsb=> ?_
 have hC:=zh h3
 have hp:∀{b o},h3.get? b=some o→h4.get? b=some o:=fun{b o} e=>(hsb.2 b fun q=>zu hC (q▸e)).trans (Heap.get?_push_of_some _ e)
 have hp5:∀{b o g},h4.get? b=some o→(h4.push g).get? b=some o:=fun e=>Heap.get?_push_of_some _ e
 have had:=S3.dead (yW (fun o e=>⟨o,hp e⟩) (zh h4):h3.get? h4.objs.size=none)
 have hId:=zh z.s.heap
 have eI:h3.get? z.new=some o0:=(S23.out z.new o0 (Heap.get?_push_size _ hf0) (ok.rep.aside hId).2).1
 obtain⟨oC,es,ep,n1,n2,n3,n4⟩:=hns
 have S5:=S3.trans (S3.rep.grow (s:={z.s with heap:=h4.push {cls:= .type "generator",data:= .fields #[.int z.s.gens.size 0,.str "<genexpr>" (tk+1),.str (env.qual++ "<genexpr>") (tk+1+1)]},gens:=z.s.gens.push (.fresh (.compStart (.GeneratorExp elt [⟨.Name x px,.Name y py,[],0⟩] scope pos) 0 (.ref z.new) .none (genEnv scope cl h3.objs.size code builtinsNs env))),toks:=tk+1+1+1}) (fun b o e=>hp5 (hp e)) (gs_push rfl))
 have S6:=Step.more S5 D.ext D.new
 obtain⟨hX,hA⟩:=gx_first (x:=x) D ok S6 (S3.dead hC) hId (fun q=>zu hC (q.symm▸eI:h3.get? h3.objs.size=some o0)) (hp5 n1) ⟨es,ep,n2,n3,fun y=>(n4 y).trans (look1 _ _ y)⟩ (hp5 (hp eI)) h0
 have ne:∀{b o},h4.get? b=some o→b≠h4.objs.size:=fun e q=>zu (zh h4) (q▸e)
 have gl:GLoop w P d _ ⟨G',z.ρ,z.st.nx⟩ x1 us ys N ⟨4,capIn c,scope,code⟩ px elt:=⟨e.S,hX,ok.base,⟨T,z.y,one,fun _ _ e=>e,.inl e.pure⟩,e.items,e.len,fun k u y h h'=>e.body k u y h h' _ _ _ _ _ _ _⟩
 have hD:∀b∈[h4.objs.size,h3.objs.size,z.new],z.s.heap.get? b=none:=List.forall_mem_cons.mpr ⟨had,List.forall_mem_cons.mpr ⟨S3.dead hC,List.forall_mem_cons.mpr ⟨hId,fun _ h=>nomatch h⟩⟩⟩
 refine And.intro (.mk (z':=⟨G',z.ρ,z.st,_⟩) (.mk (D:=[h4.objs.size,h3.objs.size,z.new]) (g0:=z.s.gens.size) (y0:=⟨G',z.ρ,z.st.nx⟩) (I:=GenI w (d+2) h4.objs.size z.s.gens.size ⟨G',z.ρ,z.st.nx⟩ ys (.ok .next)) (S0.trans S6) (GenI.iter (.inl rfl) fun _ _=>rfl) S0.gs.size
  (fun b m=>⟨S0.dead (hD b m),S0.rep.aside (hD b m)⟩) (.refl _)
  (.mk (gs:= .fresh _) (n:=ys.length) (.head _) ⟨_,_,_,Heap.get?_push_size _ rfl,rfl,rfl,rfl⟩ (fun k s s' r h=>hX.rest k s s' r fun b o q=>h b o (.tail _ q)) hA Array.getElem?_push_size (Nat.zero_add _) (List.forall_mem_cons.mpr ⟨⟨_,Heap.get?_push_size _ rfl⟩,List.forall_mem_cons.mpr ⟨⟨_,hp5 n1⟩,List.forall_mem_cons.mpr ⟨⟨_,hp5 (hp eI)⟩,fun _ h=>nomatch h⟩⟩⟩)
   fun s'' h=>.mk (Dr:=[h3.objs.size,z.new]) (List.forall_mem_cons.mpr ⟨.inl ⟨.tail _ (.head _),ne n1⟩,List.forall_mem_cons.mpr ⟨.inl ⟨.tail _ (.tail _ (.head _)),ne (hp eI)⟩,fun _ h=>nomatch h⟩⟩) hX.rest ⟨rfl,seg_gx_start (A:=(Amx (d+2)).in1) (env:=genEnv scope cl h3.objs.size code builtinsNs env) gl ⟨rfl,hk,show 4<6 by decide,rfl,hcl _,capLt c,hg,rfl,rfl⟩ hco (ha.amx.1.of (A':=(Amx (d+2)).in1) (x:=0) (y:=1) rfl rfl rfl (by decide) (by decide)) h⟩)) k) ⟨_,_,rfl,Heap.get?_push_size _ rfl,rfl⟩
theorem gx_eval(G:GxS w fr z.st scope c y xv)(hf:OneOk w d f)(hx:f xv (zD z.st c)=some t)
  (ht:t fun x1 st1=>∃us ys,GxE w P d N scope c x px elt x1 us ys∧K (.vlist ys) st1)
  (ha:AOk (d+2) A) (ok:Ok w z) (ev:EnvOk z.y fr env):wpAny (model pw w) A (eval (.GeneratorExp elt [⟨.Name x px,.Name y py,[],0⟩] scope pos) env) (GenPost w (d+2) K z) E z.s:=by
 obtain⟨ca,cb,ct,hfr,hcode⟩:=G.code
 obtain⟨G',oc,D,S1,S2⟩:=capI ok.rep c G.has
 obtain⟨hclos,_⟩:=closure_ok ev G.clos
 have okd:=S1.ok ok
 refine wpAny_GeneratorExp_make G.co hclos G.cell G.n0 G.kind ha.room (wpAny_Name (yX (z:=z.to (zD z.st c)) G.rd okd (S1.env ev) fun u q=>wm (hf xv t _ (z.to (zD z.st c)) u A E hx ht q (ha.mono (Nat.le_add_right d 2)) okd) fun it s2 p=> ?_) G.yd) fun _=>rfl
 obtain @⟨o0,x1,T,Ob,hf0,h0,one,us,ys,e,k⟩:=p
 have gr:Step (z.to (zD z.st c)) ((z.to (zD z.st c)).hp (z.s.heap.push o0)):=okd.rep.grow (s:={z.s with heap:=z.s.heap.push o0}) (fun _ _ e=>Heap.get?_push_of_some _ e) .heap
 exact⟨xU (gr.ok okd).kin,gx_core e D okd S2 one hf0 h0 k hcode (ev.code.trans hfr) ev.globals (fun C=>capEnv z C c) G.co G.kind ha⟩
end
section
variable {w:World}{d:Nat}{A:Around}{E:Value→Shared→Prop}{zb z:Z}{x:SV}{it:Value}{k n:Nat}{ys:List SV}{R:Result→Shared→Prop}
theorem all_turn(ha:AOk d A.in1)(ob:Ok w zb)(L:LInv w d zb x it k z)(hx:zO x k z.st=some ys[k]?)(hy:∀y∈ys,∃s,y= .tf s true)(h0:∀G s,Step zb ⟨G,z.ρ,z.st,s⟩→R (.ok (.ret (.bool true))) s)
  (h1:∀G s,k<ys.length→LInv w d zb x it (k+1) ⟨G,z.ρ,z.st,s⟩→codeAny (model pw w) A (.builtin "all.loop" ⟨[it],[]⟩) R s):codeAny (model pw w) A (.builtin "all.loop" ⟨[it],[]⟩) R z.s:=by
 refine codeAny_builtin F.entry_all_loop ?_
 rw [Around.under_plainId F.plain_all_loop _]
 refine wpAny_bind (m:=pyNext it) (L.turn ha (L.step.ok ob) hx (fun _ G s T=>wpAny_bind (wpAny_rule (wpAny_pure (h0 G s T)))) fun v u G s e L' q=> ?_)
 obtain⟨_,rfl⟩:=hy v (List.mem_of_getElem? e)
 cases q.inv
 exact wpAny_bind (m:=holding _ _) (wpAny_holding (wpAny_truthy_bool (wpAny_bind (wpAny_letGo (wpAny_pure ⟨plainId_quiet F.plain_all_loop _,h1 G s (List.getElem?_eq_some_iff.mp e).1 L'⟩)))))
theorem any_turn(ha:AOk d A.in1)(ob:Ok w zb)(L:LInv w d zb x it k z)(hx:zO x k z.st=some ys[k]?)(hy:∀y∈ys,∃s,y= .tf s false)(h0:∀G s,Step zb ⟨G,z.ρ,z.st,s⟩→R (.ok (.ret (.bool false))) s)
  (h1:∀G s,k<ys.length→LInv w d zb x it (k+1) ⟨G,z.ρ,z.st,s⟩→codeAny (model pw w) A (.builtin "any.loop" ⟨[it],[]⟩) R s):codeAny (model pw w) A (.builtin "any.loop" ⟨[it],[]⟩) R z.s:=by
 refine codeAny_builtin F.entry_any_loop ?_
 rw [Around.under_plainId F.plain_any_loop _]
 refine wpAny_bind (m:=pyNext it) (L.turn ha (L.step.ok ob) hx (fun _ G s T=>wpAny_bind (wpAny_rule (wpAny_pure (h0 G s T)))) fun v u G s e L' q=> ?_)
 obtain⟨_,rfl⟩:=hy v (List.mem_of_getElem? e)
 cases q.inv
 exact wpAny_bind (m:=holding _ _) (wpAny_holding (wpAny_truthy_bool (wpAny_bind (wpAny_letGo (wpAny_pure ⟨plainId_quiet F.plain_any_loop _,h1 G s (List.getElem?_eq_some_iff.mp e).1 L'⟩)))))
noncomputable def aaN(al:Bool):String:=if al then "all" else "any"
theorem aa_loop(al:Bool)(ha:AOk d A.in1)(ob:Ok w zb)(hx:∀k st,zO x k st=some ys[k]?)(hy:∀y∈ys,∃s,y= .tf s al):∀n k z,ys.length≤k+n→LInv w d zb x it k z→(∀G s,Step zb ⟨G,z.ρ,z.st,s⟩→R (.ok (.ret (.bool al))) s)→
  codeAny (model pw w) A (.builtin (if al then "all.loop" else "any.loop") ⟨[it],[]⟩) R z.s
 |0,k,z,h,L,h0=>by
  cases al with
  |true=>exact all_turn ha ob L (hx _ _) hy h0 fun _ _ q=>absurd q (Nat.not_lt.mpr h)
  |false=>exact any_turn ha ob L (hx _ _) hy h0 fun _ _ q=>absurd q (Nat.not_lt.mpr h)
 |n+1,k,z,h,L,h0=>by
  cases al with
  |true=>exact all_turn ha ob L (hx _ _) hy h0 fun _ _ q L'=>aa_loop true ha ob hx hy n (k+1) _ (Nat.succ_add k n▸h) L' h0
  |false=>exact any_turn ha ob L (hx _ _) hy h0 fun _ _ q L'=>aa_loop false ha ob hx hy n (k+1) _ (Nat.succ_add k n▸h) L' h0
theorem aa_call{al:Bool}{K:KV}(ha:AOk (d+1) A)(ob:Ok w zb)(hx:∀k st,zO x k st=some ys[k]?)(hy:∀y∈ys,∃s,y= .tf s al)(L:LInv w d zb x it 0 z)(k:K (.tf false al) z.st):
  wpAny (model pw w) A (call (.builtin (aaN al)) [it]) (Post VRel K zb) E z.s:=by
 cases al with
 |true=>
  refine call_function_tree F.kind_all F.plain_all F.entry_all (F.args_all1 _) ?_
  unfold Builtin.«all»
  exact wpAny_bind (m:=oneArg "all" _) (wpAny_pure (wpAny_bind (m:=pyIter it) (L.self (wpAny_pure ⟨plainId_quiet F.plain_all_loop _,aa_loop true (ha.of (A':=A.in1) (x:=0) (y:=1) rfl rfl rfl (by decide) (by decide)) ob hx hy ys.length 0 z (Nat.le_of_eq (Nat.zero_add _).symm) L fun G s S=>.mk S .tf k⟩))))
 |false=>
  refine call_function_tree F.kind_any F.plain_any F.entry_any (F.args_any1 _) ?_
  unfold Builtin.«any»
  exact wpAny_bind (m:=oneArg "any" _) (wpAny_pure (wpAny_bind (m:=pyIter it) (L.self (wpAny_pure ⟨plainId_quiet F.plain_any_loop _,aa_loop false (ha.of (A':=A.in1) (x:=0) (y:=1) rfl rfl rfl (by decide) (by decide)) ob hx hy ys.length 0 z (Nat.le_of_eq (Nat.zero_add _).symm) L fun G s S=>.mk S .tf k⟩))))
end
structure GE where
 elt:Expr
 x:Str
 px:Pos
 itn:Str
 ip:Pos
 scope:Scope
 gp:Pos
noncomputable abbrev GE.exp(q:GE):Expr:= .GeneratorExp q.elt [⟨.Name q.x q.px,.Name q.itn q.ip,[],0⟩] q.scope q.gp
noncomputable def p0:Pos:=⟨0,0,0,0⟩
noncomputable def e00:Expr:= .Constant .none 0 p0
noncomputable def zT(e:Expr):Str×Pos:=match e with
 | .Name x p=>(x,p)
 |_=>("",p0)
noncomputable def compP(l:List Comprehension):Expr×Expr:=match l with
 |g::_=>(g.target,g.iter)
 |_=>(e00,e00)
noncomputable def geOf(e:Expr):GE:=match e with
 | .GeneratorExp elt gs scope gp=>⟨elt,(zT (compP gs).1).1,(zT (compP gs).1).2,(zT (compP gs).2).1,(zT (compP gs).2).2,scope,gp⟩
 |_=>⟨e00,"",p0,"",p0,(tp 0).2.2,p0⟩
structure GCall where
 fn:Str
 fp:Pos
 ge:GE
 ks:List Keyword
 p:Pos
noncomputable abbrev GCall.exp(c:GCall):Expr:= .Call (.Name c.fn c.fp) [c.ge.exp] c.ks c.p
noncomputable def hdE(l:List Expr):Expr:=match l with
 |e::_=>e
 | []=>e00
noncomputable def gcOf(e:Expr):GCall:=match e with
 | .Call f es ks p=>⟨(zT f).1,(zT f).2,geOf (hdE es),ks,p⟩
 |_=>⟨"",p0,geOf e00,[],p0⟩
noncomputable def lineE(e:Expr):Nat:=match e with
 | .Call _ _ _ p=>p.line
 |_=>0
noncomputable abbrev SpT:=Expr→FrS→St→KV→Prop
noncomputable def SpOk(w:World)(d:Nat)(T:SpT):Prop:=∀e fr K z env,T e fr z.st K→EnvOk z.y fr env→W w d VRel K z (eval e env)
noncomputable def onL(n:Nat)(T:SpT)(e:Expr)(fr:FrS)(st:St):Option (KV→Prop):=zj (Nat.beq (lineE e) n) (some fun K=>T e fr st K)
noncomputable abbrev Prims.sp(P:Prims)(n:Nat)(T:SpT):Prims:={P with special:=fun e fr st=>orE (onL n T e fr st) (P.special e fr st)}
theorem Sound.sp{w:World}{P:Prims}{d n:Nat}{T:SpT}(S:Sound w P d)(h:SpOk w d T):Sound w (P.sp n T) d:=
 {S with special:=fun e fr t K z env he k ev=>(yi he).elim (fun he=>let⟨_,he⟩:=zv he;h e fr K z env (Eq.mpr (congrFun (Option.some.inj he) K) k) ev) fun he=>S.special e fr t K z env he k ev}
section
variable {w:World}{P:Prims}{d:Nat}{A:Around}{E:Value→Shared→Prop}{z:Z}{fr:FrS}{env:Env}{c:GCall}{n:String}
theorem gcall{Q:Value→Shared→Prop}(hk:c.ks.all (·.arg.isSome)=true)(hd:(c.fn=="__debug__")=false)(hf:y6 fr z.st c.fn=some (.top (.builtin n)))(ok:Ok w z)(ev:EnvOk z.y fr env)
  (h:wpAny (model pw w) A (eval c.ge.exp env) (fun v s1=>wpAny (model pw w) A (evalAll ((backToKw c.p (keywordEach c.ks env)).map (·.2))) (fun kvs s2=>wpAny (model pw w) A (call (.builtin n) [v] ((c.ks.filterMap (·.arg)).zip kvs)) Q E s2) E s1) E z.s):wpAny (model pw w) A (eval c.exp env) Q E z.s:=by
 refine wpAny_bind (wpAny_Name (yX hf ok ev fun u q=> ?_) hd)
 cases q.inv
 refine yG rfl (kw_ok.2.2.trans hk) (spliced_more (wm h fun v s1 h=>spliced_nil (wm h fun kvs s2 h=> ?_)) rfl)
 rw [kw_ok.1]
 exact⟨⟨.machine,fun Q q=>wpAny_pure q⟩,h⟩
end
noncomputable def s00:Stmt:= .Pass p0
noncomputable def sAt(l:List Stmt)(i:Nat):Stmt:=l[i]?.getD s00
noncomputable def ifT(s:Stmt):Expr:=match s with
 | .If t _ _ _=>t
 |_=>e00
noncomputable def notE(e:Expr):Expr:=match e with
 | .UnaryOp _ x _=>x
 |_=>e
noncomputable def sndE(e:Expr):Expr:=match e with
 | .BoolOp _ es _=>hdE es.tail
 |_=>e
noncomputable def x4:FrS:=⟨4,[("num_cand",5)],(tp 2).2.2,.ref 29⟩
noncomputable def xz:GCall:=gcOf (notE (ifT (sAt (tp 2).2.1 3)))
noncomputable def x9:GCall:=gcOf (sndE (ifT (sAt (tp 2).2.1 4)))
noncomputable def wZ(x:SV):Option (List SV):=match x with
 | .tup us=>some us
 | .vlist us=>some us
 | .vset _ xs=>some (xs.map SV.sint)
 |_=>none
noncomputable def ledOk(w:World)(x:SV):Prop:=match x with
 | .vset led _=>led= !zy w
 |_=>True
noncomputable def iterB(w:World):IterH:=xp (iterS w) (xp iterL iterT)
noncomputable def givesB(x1:SV):List SV:=match x1 with
 | .tup us=>us
 | .vlist us=>us
 | .iset ys=>ys.map SV.sint
 |_=> []
noncomputable def symb(u:SV):Bool:=match u with
 | .num s _=>s
 |_=>false
section
variable {w:World}{d:Nat}
theorem OneOk.or{f g:IterH}(a:OneOk w d f)(b:OneOk w d g):OneOk w d (xp f g):=fun x t K z v A E e=>(yi e).elim (fun e=>a x t K z v A E e) fun e=>b x t K z v A E e
theorem iterB_ok:OneOk w d (iterB w):=iterS_ok.or (xG.or iterT_ok)
theorem iterB_of{x:SV}{us:List SV}{st:St}(h:wZ x=some us)(hl:ledOk w x)(hp:zt us=true):∃t,iterB w x st=some t∧∀K:KV,(∀x1,x1.pure=true→(∀k st,zO x1 k st=some (givesB x1)[k]?)→(givesB x1).Perm us→K x1 st)→t K:=by
 induction x using SV.casesOn with
 |tup xs=>cases h;exact⟨_,rfl,fun K k=>k (.tup us) hp (fun _ _=>rfl) (.refl _)⟩
 |vlist xs=>cases h;exact⟨_,rfl,fun K k=>k (.vlist us) rfl (fun _ _=>rfl) (.refl _)⟩
 |vset led xs=>
  cases h
  exact⟨_,rfl,fun K k=>⟨hl,all_N (fun ys hy=>k (.iset ys) rfl (fun k st=>by
   show some (ys[k]?.map SV.sint)=some (ys.map SV.sint)[k]?
   rw [List.getElem?_map]) (hy.map _)) _⟩⟩
 |_=>exact(zu rfl h).elim
end
noncomputable def wv(w:World)(x:SV)(f:List (Bool×Int)→Prop):Prop:=zg (wZ x) fun us=>zg (zJ asN us) fun ns=>(ledOk w x∧zt us=true)∧f ns
noncomputable def csAllT(w:World):SpT:=fun e fr st K=>(e=xz.exp∧fr=x4)∧zg (y6 x4 st xz.ge.itn) fun x=>wv w x fun ns=>(∀p∈ns,0≤p.2)∧K (.tf false true) st
noncomputable def csAnyT(w:World):SpT:=fun e fr st K=>(e=x9.exp∧fr=x4)∧∃sm m,Has st 5 (.cell (some (.num sm m)))∧zg (y6 x4 (st.drop 5) x9.ge.itn) fun x=>wv w x fun ns=>(∀p∈ns,p.2<m)∧K (.tf false false) (st.drop 5)
noncomputable def GE.okB(q:GE):Bool:=(q.scope.names.all fun y=>y.2 != .cell) &&((q.scope.names.lookup (".0":Str)==some .local) &&((q.scope.kind== .function) &&(!q.scope.isCoroutine&& !(q.itn=="__debug__"))))
structure GSt(g:GCall)(fr:FrS)(n:String)(cl:List (Str×Nat)):Prop where
 ok:g.ge.okB=true
 cl:closF fr g.ge.scope.names []=some cl
 fn:g.fn=n
 fd:(g.fn=="__debug__")=false
 ks:g.ks.all (·.arg.isSome)=true
theorem GSt.go{w:World}{g:GCall}{fr:FrS}{n:String}{c:Cap}{st:St}{xv:SV}(h:GSt g fr n (capCl c))(hc:∃a b t,fr.code= .ref a∧CodeO w.params a b t)(hh:capHas st c)(hr:y6 fr (zD st c) g.ge.itn=some xv):GxS w fr st g.ge.scope c g.ge.itn xv:=
 have⟨h1,k⟩:=zx h.ok
 have⟨h2,k⟩:=zx k
 have⟨h3,k⟩:=zx k
 have⟨h4,h5⟩:=zx k
 ⟨hc,(Bool.not_eq_true' _).mp h4,beq_iff_eq.mp h3,h.cl,fun y m=>bne_iff_ne.mp (List.all_eq_true.mp h1 y m),beq_iff_eq.mp h2,hh,hr,(Bool.not_eq_true' _).mp h5⟩
theorem csAll_st:GSt xz x4 "all" []:=⟨by kernel_rfl,by kernel_rfl,by kernel_rfl,by kernel_rfl,by kernel_rfl⟩
theorem csAny_st:GSt x9 x4 "any" [("num_cand",5)]:=⟨by kernel_rfl,by kernel_rfl,by kernel_rfl,by kernel_rfl,by kernel_rfl⟩
theorem cs_rd(w:World)(st:St):y6 x4 st "all"=some (.top (.builtin "all"))∧y6 x4 st "any"=some (.top (.builtin "any")):=⟨by kernel_rfl,by kernel_rfl⟩
noncomputable abbrev csB(w:World)(g:GCall)(c:Cap)(o:Obj)(code:Value)(u:SV)(l:List (Str×SV))(K:KV):Prop:=vc w (P0 w) 12 (.A (.Name g.ge.x g.ge.px) u ⟨4,capIn c,g.ge.scope,code⟩ ⟨(4,.ns "dict" l)::capO o c,6⟩ fun st2=>vc w (P0 w) 12 (.E g.ge.elt ⟨4,capIn c,g.ge.scope,code⟩ st2 K))
theorem csAll_b(w:World)(code it:Value)(o:Obj)(s:Bool)(n:Int)(K:KV):csB w xz none o code (.num s n) [(".0",.top it)] K=K (.tf (s||false) (decide (0≤n))) ⟨[(4,.ns "dict" [(".0",.top it),(xz.ge.x,.num s n)])],6⟩:=by kernel_rfl
theorem csAll_b2(w:World)(code it v:Value)(o:Obj)(s:Bool)(n:Int)(K:KV):csB w xz none o code (.num s n) [(".0",.top it),(xz.ge.x,.top v)] K=K (.tf (s||false) (decide (0≤n))) ⟨[(4,.ns "dict" [(".0",.top it),(xz.ge.x,.num s n)])],6⟩:=by kernel_rfl
noncomputable abbrev csC(sm:Bool)(m:Int):Cap:=some ("num_cand",5,.num sm m)
theorem csAny_b(w:World)(code it:Value)(o:Obj)(sm:Bool)(m:Int)(s:Bool)(n:Int)(K:KV):csB w x9 (csC sm m) o code (.num s n) [(".0",.top it)] K=K (.tf (s||sm) (decide (m≤n))) ⟨[(4,.ns "dict" [(".0",.top it),(x9.ge.x,.num s n)]),(5,.cellF (.num sm m) o)],6⟩:=by kernel_rfl
theorem csAny_b2(w:World)(code it v:Value)(o:Obj)(sm:Bool)(m:Int)(s:Bool)(n:Int)(K:KV):csB w x9 (csC sm m) o code (.num s n) [(".0",.top it),(x9.ge.x,.top v)] K=K (.tf (s||sm) (decide (m≤n))) ⟨[(4,.ns "dict" [(".0",.top it),(x9.ge.x,.num s n)]),(5,.cellF (.num sm m) o)],6⟩:=by kernel_rfl
theorem own5{so so':SO}{i j:Nat}(h:List.lookup i [(j,so)]=some so'):i=j∧so'=so:=
 have h:=(zn ..).symm.trans h
 if e:i=j then⟨e,(Option.some.inj ((if_pos e).symm.trans h)).symm⟩else nomatch (if_neg e).symm.trans h
theorem csAll_ok{w:World}{s:Bool}{n:Int}(h:0≤n):GxB w (P0 w) 12 xz.ge.scope none xz.ge.x xz.ge.px xz.ge.elt (.num s n) (.tf (s||false) true):=fun code G ρ o it I Ob=>⟨rfl,fun l hl=>by
 cases hl with
 |one=>exact(csAll_b w code it o s n _).mpr ⟨congrArg _ (decide_eq_true h),rfl,fun _ _ q=>nomatch q⟩
 | @two v=>exact(csAll_b2 w code it v o s n _).mpr ⟨congrArg _ (decide_eq_true h),rfl,fun _ _ q=>nomatch q⟩⟩
theorem csAny_ok{w:World}{s sm:Bool}{n m:Int}(h:n<m):GxB w (P0 w) 12 x9.ge.scope (csC sm m) x9.ge.x x9.ge.px x9.ge.elt (.num s n) (.tf (s||sm) false):=fun code G ρ o it I Ob=>⟨rfl,fun l hl=>by
 have hc:∀so':SO,∀i so,(capO o (csC sm m)).lookup i=some so→Has ⟨[(4,so'),(5,.cellF (.num sm m) o)],6⟩ i so:=fun so' i so q=>by
  obtain⟨rfl,rfl⟩:=own5 q
  rfl
 cases hl with
 |one=>exact(csAny_b w code it o sm m s n _).mpr ⟨congrArg _ (decide_eq_false (Int.not_le.mpr h)),rfl,hc _⟩
 | @two v=>exact(csAny_b2 w code it v o sm m s n _).mpr ⟨congrArg _ (decide_eq_false (Int.not_le.mpr h)),rfl,hc _⟩⟩
theorem mapO_mem{β:Type}{f:SV→Option β}{u:SV}:∀{l:List SV} {r:List β},zJ f l=some r→u∈l→∃b∈r,f u=some b
 | [],_,_,m=>nomatch m
 |x::l,r,h,m=>by
  obtain⟨b,e1,h⟩:=zz h
  obtain⟨r',e2,h⟩:=zz h
  cases h
  rcases List.mem_cons.mp m with rfl|m
  ·exact⟨b,.head _,e1⟩
  ·obtain⟨c,q,e⟩:=mapO_mem e2 m
   exact⟨c,.tail _ q,e⟩
theorem x8{α β:Type}{f:α→β}{l:List α}{k:Nat}{a:α}{b:β}(h:l[k]? =some a)(h':(l.map f)[k]? =some b):b=f a:=by
 rw [List.getElem?_map,h]at h'
 exact(Option.some.inj h').symm
section
variable {w:World}{d:Nat}{z:Z}{K:KV}{env:Env}{g:GCall}{c:Cap}{al:Bool}{xv:SV}{us:List SV}{ns:List (Bool×Int)}
theorem gx_sp{P:Prims}{N:Nat}{n:String}{fr:FrS}{A:Around}{E:Value→Shared→Prop}{Q:Value→Shared→Prop}(hP:Sound w P d)(G:GSt g fr n (capCl c))(hc:∃a b t,fr.code= .ref a∧CodeO w.params a b t)(hf:y6 fr z.st g.fn=some (.top (.builtin n)))(hh:capHas z.st c)(hr:y6 fr (zD z.st c) g.ge.itn=some xv)(hi:wZ xv=some us)(hl:ledOk w xv∧zt us=true)
  (f:SV→SV) (hb:∀u∈us,GxB w P N g.ge.scope c g.ge.x g.ge.px g.ge.elt u (f u)) (ev:EnvOk z.y fr env) (ha:AOk (d+2) A) (ok:Ok w z)
  (k:∀ys a o z',ys.Perm (us.map f)→LInv w (d+2) z (.vlist ys) (.ref a) 0 z'→z'.s.heap.get? a=some o→o.cls= .type "generator"→z'.st=zD z.st c→
   wpAny (model pw w) A (evalAll ((backToKw g.p (keywordEach g.ks env)).map (·.2))) (fun kvs s2=>wpAny (model pw w) A (call (.builtin n) [.ref a] ((g.ks.filterMap (·.arg)).zip kvs)) Q E s2) E z'.s):wpAny (model pw w) A (eval g.exp env) Q E z.s:=by
 obtain⟨t,ht,hK⟩:=iterB_of (st:=zD z.st c) hi hl.1 hl.2
 refine gcall G.ks G.fd hf ok ev (wm (gx_eval (d:=d) (N:=N) (K:=fun x st=>(∃ys,x= .vlist ys∧ys.Perm (us.map f))∧st=zD z.st c) (G.go hc hh hr) iterB_ok ht (hK _ fun x1 hp1 hi1 hu=>⟨givesB x1,(givesB x1).map f,⟨hP,hp1,hi1,List.length_map .. |>.symm,fun k u y h h'=>x8 h h'▸hb u (hu.mem_iff.mp (List.mem_of_getElem? h))⟩,⟨_,rfl,hu.map f⟩,rfl⟩) ha ok ev) fun it s p=> ?_)
 obtain⟨p,a,o,rfl,h1,h2⟩:=p
 cases p with
 | @mk z' x' it L k'=>
  obtain⟨⟨ys,rfl,hy⟩,e⟩:=k'
  exact k ys a o z' hy L h1 h2 e
theorem aa_sp(G:GSt g x4 (aaN al) (capCl c))(hks:g.ks=[])(hf:y6 x4 z.st g.fn=some (.top (.builtin (aaN al))))(hh:capHas z.st c)(hr:y6 x4 (zD z.st c) g.ge.itn=some xv)(hi:wZ xv=some us)(hn:zJ asN us=some ns)(hl:ledOk w xv∧zt us=true)
  (sy:Bool→Bool) (hb:∀p∈ns,GxB w (P0 w) 12 g.ge.scope c g.ge.x g.ge.px g.ge.elt (.num p.1 p.2) (.tf (sy p.1) al)) (k:K (.tf false al) (zD z.st c)) (ev:EnvOk z.y x4 env):W w (d+3) VRel K z (eval g.exp env):=fun A E ha ok=>by
 refine gx_sp (N:=12) (P0_ok w d) G ⟨_,_,_,rfl,code29 _⟩ hf hh hr hi hl (fun u=>.tf (sy (symb u)) al) (fun u m=> ?_) ev (ha.mono (Nat.le_succ _)) ok fun ys a o z' hy L h1 h2 e=> ?_
 ·obtain⟨q,m2,e⟩:=mapO_mem hn m
  obtain rfl:=asN_ok e
  exact hb q m2
 ·rw [hks]
  exact wpAny_pure (aa_call (d:=d+2) ha ok (fun _ _=>rfl) (fun y m=>let⟨u,_,e⟩:=List.mem_map.mp (hy.mem_iff.mp m);⟨_,e.symm⟩) L (e▸k))
end
theorem csAllT_ok(w:World)(d:Nat):SpOk w (d+3) (csAllT w):=fun e fr K z env h ev=>by
 obtain⟨⟨rfl,rfl⟩,h⟩:=h
 obtain⟨xv,h1,h⟩:=zr h
 obtain⟨us,h2,h⟩:=zr h
 obtain⟨ns,h3,h4,h6,k⟩:=zr h
 exact aa_sp (al:=true) (c:=none) csAll_st (by kernel_rfl) (by kernel_rfl) trivial h1 h2 h3 h4 (fun s=>s||false) (fun p m=>csAll_ok (h6 p m)) k ev
theorem csAnyT_ok(w:World)(d:Nat):SpOk w (d+3) (csAnyT w):=fun e fr K z env h ev=>by
 obtain⟨⟨rfl,rfl⟩,sm,m,h0,h⟩:=h
 obtain⟨xv,h1,h⟩:=zr h
 obtain⟨us,h2,h⟩:=zr h
 obtain⟨ns,h3,h4,h6,k⟩:=zr h
 exact aa_sp (al:=false) (c:=csC sm m) csAny_st (by kernel_rfl) (by kernel_rfl) ⟨h0,rfl⟩ h1 h2 h3 h4 (fun s=>s||sm) (fun p q=>csAny_ok (h6 p q)) k ev
noncomputable abbrev Ren:=List (Nat×Nat)
noncomputable def ixR:Ren→Nat→Option Nat
 | [],_=>none
 |p::L,i=>match Nat.beq p.2 i with
  |true=>some p.1
  |false=>ixR L i
noncomputable def renV(L:Ren)(x:SV):Option SV:=match x with
 | .ref i=>(ixR L i).map SV.ref
 | .obj C i=>(ixR L i).map (SV.obj C)
 |x=>zj x.pure (some x)
noncomputable def renL(L:Ren):List SV→Option (List SV)
 | []=>some []
 |x::r=>(renV L x).bind fun y=>(renL L r).bind fun z=>some (y::z)
noncomputable def renF(pv:List Str)(L:Ren):List (Str×SV)→Option (List (Str×SV))
 | []=>some []
 |p::r=>(match pv.elem p.1 with
  |true=>some p.2
  |false=>renV L p.2).bind fun y=>(renF pv L r).bind fun z=>some ((p.1,y)::z)
noncomputable def renO(pv:List Str)(L:Ren)(so:SO):Option SO:=match so with
 | .list xs=>(renL L xs).bind fun ys=>some (.list ys)
 | .ns c fs=>(renF pv L fs).bind fun ys=>some (.ns c ys)
 | .cell x=>(match x with
  |some x=>(renV L x).bind fun y=>some (.cell (some y))
  |none=>some so)
 | .inst fs=>(renF pv L fs).bind fun ys=>some (.inst ys)
 |_=>none
noncomputable def asLst(so:SO):Option SO:=match so with
 | .list xs=>some (.list xs)
 |_=>none
noncomputable def renO1(L:Ren)(lf:List Nat)(pv:List Str)(i:Nat)(so:SO):Option SO:=match lf.elem i with
 |true=>asLst so
 |false=>renO (match Nat.beq i 4 with
  |true=>pv
  |false=> []) L so
noncomputable def renS(own:List (Nat×SO))(L:Ren)(lf:List Nat)(pv:List Str):Ren→Option (List (Nat×SO))
 | []=>some []
 |p::r=>(own.lookup p.2).bind fun so=>(renO1 L lf pv p.2 so).bind fun x=>(renS own L lf pv r).bind fun z=>some ((p.1,x)::z)
noncomputable def okP(b n:Nat)(L:Ren)(p:Nat×Nat):Bool:=(Nat.ble b p.1||Nat.beq p.1 p.2) &&(Nat.ble (p.1+1) n&&((L.lookup p.1).any (Nat.beq p.2) &&(ixR L p.2).any (Nat.beq p.1)))
noncomputable def refV(x:SV):List Nat:=match x with
 | .ref i=> [i]
 | .obj _ i=> [i]
 |_=> []
noncomputable def refO(pv:List Str)(so:SO):List Nat:=match so with
 | .list xs=>xs.flatMap refV
 | .ns _ fs=>fs.flatMap fun p=>match pv.elem p.1 with
  |true=> []
  |false=>refV p.2
 | .cell (some x)=>refV x
 | .inst fs=>fs.flatMap fun p=>refV p.2
 |_=> []
noncomputable def addN(b0:Nat)(acc:List Nat)(i:Nat):List Nat:=match Nat.ble b0 i&& !acc.any (Nat.beq i)with
 |true=>acc++[i]
 |false=>acc
noncomputable def refsAt(own:List (Nat×SO))(lf:List Nat)(pv:List Str)(b0:Nat)(acc:List Nat)(i:Nat):List Nat:=match lf.elem i,own.lookup i with
 |false,some so=>(refO pv so).foldl (addN b0) acc
 |_,_=>acc
noncomputable def reach(own:List (Nat×SO))(lf:List Nat)(pv:List Str)(b0:Nat):Nat→List Nat→List Nat
 |0,acc=>acc
 |n+1,acc=>reach own lf pv b0 n (acc.foldl (refsAt own lf pv b0) acc)
noncomputable def isIn(own:List (Nat×SO))(i:Nat):Bool:=match own.lookup i with
 |some _=>true
 |none=>false
noncomputable def numb(b:Nat):List Nat→Ren
 | []=> []
 |i::r=>(b,i)::numb (b+1) r
noncomputable def renOf(b0 b:Nat)(lf:List Nat)(pv:List Str)(st:St):Ren:=(((List.range b0).filter (isIn st.own)).map fun i=>(i,i))++numb b (reach st.own lf pv b0 3 ((List.range b0).foldl (refsAt st.own lf pv b0) []))
noncomputable def canonL(b:Nat)(st:St)(lf:List Nat)(pv:List Str)(L:Ren):Option St:=zj (L.all (okP b (b+L.length) L)) ((renS st.own L lf pv L).bind fun own=>some ⟨own,b+L.length⟩)
noncomputable def canon(b0 b:Nat)(lf:List Nat)(pv:List Str)(st:St):Option St:=canonL b st lf pv (renOf b0 b lf pv st)
noncomputable def partN(ks:List Str)(st:St):St:=match nsL st 4 with
 |some p=>st.put 4 (.ns "part" (p.2.filter fun q=>ks.elem q.1))
 |none=>st
noncomputable def xx(x:SV):Option Nat:=match x with
 | .ref i=>some i
 |_=>none
noncomputable def leafs(lf:List Str)(st:St):List Nat:=lf.filterMap fun x=>(nsL st 4).bind fun p=>(p.2.lookup x).bind xx
noncomputable def leafP(st:St):List Nat→Prop
 | []=>True
 |i::r=>zg (zA st i) (fun xs=>zt xs=true)∧leafP st r
noncomputable def xH(pv:List Str):List (Str×SV)→Prop
 | []=>True
 |p::r=>match pv.elem p.1 with
  |true=>p.2.pure=true∧xH pv r
  |false=>xH pv r
noncomputable def anewP(b0 b:Nat)(lf:List Nat)(pv:List Str)(I:St→Prop)(st:St):Prop:=leafP st lf∧zg (nsL st 4) (fun p=>xH pv p.2)∧zg (canon b0 b lf pv st) I
structure Kp where
 ks:List Str
 lf:List Str
 pv:List Str
section
variable {y y':Y}{L:Ren}
structure RenOk(y y':Y)(L:Ren):Prop where
 ext:∀b o,y.G b=some o→y'.G b=some o
 ix:∀i j,ixR L i=some j→j<y'.n∧y'.ρ j=y.ρ i
theorem VRel.ren(R:RenOk y y' L){x x':SV}{v:Value}(q:VRel y x v)(e:renV L x=some x'):VRel y' x' v:=by
 have go:zj x.pure (some x)=some x'→VRel y' x' v:=fun e=>let⟨p,e⟩:=zv e;Option.some.inj e▸q.mv R.ext (.inl p)
 induction x using SV.casesOn with
 |ref i=>
  obtain⟨j,h,rfl⟩:=Option.map_eq_some_iff.mp e
  exact q.inv.2▸(R.ix _ _ h).2▸ .ref (R.ix _ _ h).1
 |obj C i=>
  obtain⟨j,h,rfl⟩:=Option.map_eq_some_iff.mp e
  obtain⟨_,g⟩:=q.inv
  exact .obj (R.ix _ _ h).1 ((R.ix _ _ h).2▸R.ext _ _ g)
 |_=>exact go e
theorem VRels.ren(R:RenOk y y' L){xs vs}(q:VRels y xs vs):∀{xs'},renL L xs=some xs'→VRels y' xs' vs:=by
 induction q with
 |nil=>exact fun e=>Option.some.inj e▸ .nil
 |cons a _ ih=>
  intro xs' e
  obtain⟨_,e1,e⟩:=zz e
  obtain⟨_,e2,e⟩:=zz e
  exact Option.some.inj e▸ .cons (a.ren R e1) (ih e2)
theorem VRel.ren1(R:RenOk y y' L){pv:List Str}{n:Str}{x x':SV}{v:Value}(q:VRel y x v)(h:pv.elem n=true→x.pure=true)(e:(match pv.elem n with|true=>some x|false=>renV L x)=some x'):VRel y' x' v:=by
 cases c:pv.elem n with
 |true=>rw [c]at e;exact Option.some.inj e▸q.mv R.ext (.inl (h c))
 |false=>rw [c]at e;exact q.ren R e
theorem pureN_of{pv:List Str}{p:Str×SV}{fs}(h:xH pv (p::fs)):(pv.elem p.1=true→p.2.pure=true)∧xH pv fs:=by
 unfold xH at h
 cases c:pv.elem p.1 with
 |true=>rw [c]at h;exact⟨fun _=>h.1,h.2⟩
 |false=>rw [c]at h;exact⟨fun q=>Bool.noConfusion q,h⟩
theorem pureN_nil:∀fs,xH [] fs
 | []=>trivial
 |_::fs=>pureN_nil fs
theorem FRels.ren(R:RenOk y y' L){pv fs l}(q:FRels y fs l):∀{fs'},xH pv fs→renF pv L fs=some fs'→FRels y' fs' l:=by
 induction q with
 |nil=>exact fun _ e=>Option.some.inj e▸ .nil
 |cons a _ ih=>
  intro xs' h e
  obtain⟨_,e1,e⟩:=zz e
  obtain⟨_,e2,e⟩:=zz e
  exact Option.some.inj e▸ .cons (a.ren1 R (pureN_of h).1 e1) (ih (pureN_of h).2 e2)
theorem renF_of(R:RenOk y y' L){pv:List Str}{x:Str}{sv:SV}:∀{fs fs'},xH pv fs→renF pv L fs=some fs'→List.lookup x fs'=some sv→∃u,List.lookup x fs=some u∧∀v,VRel y u v→VRel y' sv v
 | [],_,_,e,h=>by cases e;cases h
 |p::r,_,hp,e,h=>by
  obtain⟨y,e1,e⟩:=zz e
  obtain⟨z,e2,e⟩:=zz e
  cases e
  rw [List.lookup_cons]at h⊢
  cases c:x==p.1 with
  |true=>rw [c]at h;cases h;exact⟨_,rfl,fun v q=>q.ren1 R (pureN_of hp).1 e1⟩
  |false=>rw [c]at h;exact renF_of R (pureN_of hp).2 e2 h
theorem ORel.ren(R:RenOk y y' L){pv:List Str}{so so':SO}{o:Obj}(q:ORel y so o)(hn:∀c fs,so= .ns c fs→xH pv fs)(hi:pv=[]∨∃c fs,so= .ns c fs)(e:renO pv L so=some so'):ORel y' so' o:=by
 induction so using SO.casesOn with
 |list xs=>
  obtain⟨_,e1,e⟩:=zz e
  exact Option.some.inj e▸(let⟨vs,k,h,a⟩:=q;⟨vs,k,h,a.ren R e1⟩)
 |ns c fs=>
  obtain⟨_,e1,e⟩:=zz e
  exact Option.some.inj e▸(let⟨l,h,a⟩:=q;⟨l,h,fun x sv e=>let⟨_,h1,h2⟩:=renF_of R (hn _ _ rfl) e1 e;let⟨v,h3,a⟩:=a.sub x _ h1;⟨v,h3,h2 v a⟩,a.ex.imp id fun a=>a.ren R (hn _ _ rfl) e1⟩)
 |inst fs=>
  obtain rfl:=hi.resolve_right fun⟨_,_,h⟩=>SO.noConfusion h
  obtain⟨_,e1,e⟩:=zz e
  exact Option.some.inj e▸(let⟨es,l,k,h,h2,a⟩:=q;⟨es,l,k,h,h2,a.ren R (pureN_nil _) e1⟩)
 |cell x=>
  obtain⟨u,h,a⟩:=q
  cases x with
  |none=>exact Option.some.inj e▸⟨u,h,fun _ q=>nomatch q⟩
  |some x=>
   obtain⟨x',e1,e⟩:=zz e
   obtain⟨v,h2,b⟩:=a x rfl
   exact Option.some.inj e▸⟨u,h,fun _ q=>⟨v,h2,Option.some.inj q▸b.ren R e1⟩⟩
 |_=>exact(zu rfl e).elim
theorem leafP_of{st:St}{i:Nat}:∀{lf},leafP st lf→i∈lf→∃xs,Has st i (.list xs)∧zt xs=true
 |_::_,h,.head _=>let⟨xs,e,p⟩:=zr h.1;⟨xs,zB e,p⟩
 |_::_,h,.tail _ m=>leafP_of h.2 m
theorem VRels.mvs{xs:List SV}{vs:List Value}(R:RenOk y y' L)(p:zt xs=true)(q:VRels y xs vs):VRels y' xs vs:=q.mv R.ext (.inl p)
theorem ORel.ren1(R:RenOk y y' L){st:St}{lf:List Nat}{pv:List Str}(hl:leafP st lf)(hp:zg (nsL st 4) fun p=>xH pv p.2){i:Nat}{so so':SO}{o:Obj}(h:Has st i so)(q:ORel y so o)(e:renO1 L lf pv i so=some so'):ORel y' so' o:=by
 unfold renO1 at e
 cases c:lf.elem i with
 |false=>
  rw [c]at e
  obtain⟨p,e4,hp⟩:=zr hp
  have h4:=yN e4
  by_cases d:i=4
  ·subst d
   obtain rfl:=Option.some.inj (h4.symm.trans h)
   exact q.ren R (fun c fs e=>by cases e;exact hp) (.inr ⟨_,_,rfl⟩) e
  ·replace e:renO (match Nat.beq i 4 with|true=>pv|false=> []) L so=some so':=e
   rw [nbeq,decide_eq_false d]at e
   exact q.ren R (fun _ fs _=>pureN_nil fs) (.inl rfl) e
 |true=>
  rw [c]at e
  obtain⟨xs,h2,p⟩:=leafP_of hl (List.elem_iff.mp c)
  obtain rfl:=Option.some.inj (h2.symm.trans h)
  cases e
  exact let⟨vs,k,e,a⟩:=q;⟨vs,k,e,a.mvs R p⟩
theorem any_beq{o:Option Nat}{n:Nat}(h:o.any (Nat.beq n)=true):o=some n:=by
 cases o with
 |none=>cases h
 |some m=>exact congrArg some (Nat.eq_of_beq_eq_true h).symm
theorem okP_of{b n:Nat}{p:Nat×Nat}(h:okP b n L p=true):(b≤p.1∨p.1=p.2)∧p.1<n∧L.lookup p.1=some p.2∧ixR L p.2=some p.1:=
 have⟨h1,h⟩:=zx h
 have⟨h2,h⟩:=zx h
 have⟨h3,h4⟩:=zx h
 ⟨((Bool.or_eq_true _ _).mp h1).imp Nat.le_of_ble_eq_true Nat.eq_of_beq_eq_true,Nat.le_of_ble_eq_true h2,any_beq h3,any_beq h4⟩
theorem ixR_mem{i j:Nat}:∀{L:Ren},ixR L i=some j→(j,i)∈L
 |p::L,h=>by
  unfold ixR at h
  cases e:Nat.beq p.2 i with
  |true=>rw [e]at h;cases h;cases Nat.eq_of_beq_eq_true e;exact .head _
  |false=>rw [e]at h;exact .tail _ (ixR_mem h)
theorem renS_of{own:List (Nat×SO)}{lf:List Nat}{pv:List Str}{j:Nat}{x:SO}:∀{r:Ren} {own'},renS own L lf pv r=some own'→own'.lookup j=some x→∃i so,(j,i)∈r∧own.lookup i=some so∧renO1 L lf pv i so=some x
 | [],_,h,e=>by cases h;cases e
 |p::r,_,h,e=>by
  obtain⟨so,e1,h⟩:=zz h
  obtain⟨y,e2,h⟩:=zz h
  obtain⟨z,e3,h⟩:=zz h
  cases h
  have e:=(zn ..).symm.trans e
  by_cases c:j=p.1
  ·cases (if_pos c).symm.trans e
   exact⟨p.2,so,c▸ .head _,e1,e2⟩
  ·obtain⟨i,so,m,q⟩:=renS_of e3 ((if_neg c).symm.trans e)
   exact⟨i,so,.tail _ m,q⟩
end
theorem canon_ok{zb z:Z}{b b0:Nat}{lf:List Nat}{pv:List Str}{J:St→Prop}(S:Step zb z)(hb:zb.st.nx≤b)(h:anewP b0 b lf pv J z.st):∃ρ' st',(∀i,i<b→ρ' i=z.ρ i)∧b≤st'.nx∧Step zb ⟨z.G,ρ',st',z.s⟩∧(∀a,z.Out a→Z.Out ⟨z.G,ρ',st',z.s⟩ a)∧J st':=by
 obtain⟨hl,hpv,h⟩:=h
 obtain⟨st',h,hJ⟩:=zr h
 unfold canon canonL at h
 generalize renOf b0 b lf pv z.st=L at h
 obtain⟨h1,h⟩:=zv h
 obtain⟨own,h2,h⟩:=zz h
 cases h
 have ok:∀{p},p∈L→_:=fun m=>okP_of (List.all_eq_true.mp h1 _ m)
 let ρ':Nat→Addr:=fun j=>if j<b then z.ρ j else z.ρ ((L.lookup j).getD 0)
 have rho:∀{p},p∈L→ρ' p.1=z.ρ p.2:=fun{p} m=>by
  obtain⟨a,_,c,_⟩:=ok m
  by_cases q:p.1<b
  ·exact(if_pos q).trans (congrArg z.ρ (a.resolve_left (Nat.not_le.mpr q)))
  ·exact(if_neg q).trans (congrArg (fun o:Option Nat=>z.ρ (o.getD 0)) c)
 have low:∀i,i<b→ρ' i=z.ρ i:=fun i h=>if_pos h
 have R:RenOk z.y ⟨z.G,ρ',b+L.length⟩ L:=⟨fun _ _ e=>e,fun i j e=>⟨(ok (ixR_mem e)).2.1,rho (ixR_mem e)⟩⟩
 have old:∀{j x},Has ⟨own,b+L.length⟩ j x→∃i so,(j,i)∈L∧Has z.st i so∧renO1 L lf pv i so=some x:=fun e=>renS_of h2 e
 have ow:∀{a},z.Ow a→∀j x,Has ⟨own,b+L.length⟩ j x→ρ' j≠a:=fun n j x e=>let⟨i,so,m,hh,_⟩:=old e;(rho m:ρ' j=z.ρ i)▸n i so hh
 have r:=S.rep
 refine⟨ρ',_,low,Nat.le_add_right ..,⟨⟨r.sub,fun j x e=> ?_,fun i j x y e1 e2 q=> ?_,fun a m=>let⟨o,w⟩:=r.tab a m;⟨o,w.at',w.tab,w.gn,ow w.ow⟩⟩,⟨Nat.le_trans hb (Nat.le_add_right ..),fun i h=>(low i (Nat.lt_of_lt_of_le h hb)).trans (S.le.rho i h),S.le.ext⟩,fun a o e n=>let⟨p,q,t⟩:=S.out a o e n;⟨p,⟨ow q.1,q.2⟩,t⟩,S.own,S.gs⟩,fun a n=>⟨ow n.1,n.2⟩,hJ⟩
 ·obtain⟨i,so,m,hh,e3⟩:=old e
  obtain⟨o,w⟩:=r.own i so hh
  exact⟨o,.of (rho m) (ok m).2.1 w.gn w.hp (w.rel.ren1 R hl hpv hh e3)⟩
 ·obtain⟨i',_,m1,h1',_⟩:=old e1
  obtain⟨j',_,m2,h2',_⟩:=old e2
  obtain rfl:=r.inj i' j' _ _ h1' h2' ((rho m1).symm.trans (q.trans (rho m2)))
  exact Option.some.inj ((ok m1).2.2.2.symm.trans (ok m2).2.2.2)
theorem xq{β:Type}{f:Str→Bool}{x:Str}{sv:β}:∀{fs:List (Str×β)},List.lookup x (fs.filter fun q=>f q.1)=some sv→List.lookup x fs=some sv
 | [],h=>h
 |p::r,h=>by
  rw [List.filter_cons]at h
  rw [List.lookup_cons]
  by_cases c:x=p.1
  ·rw [c,beq_self_eq_true]
   cases e:f p.1 with
   |true=>rw [e,if_pos rfl,List.lookup_cons,c,beq_self_eq_true]at h;exact h
   |false=>
    rw [e,if_neg Bool.false_ne_true]at h
    have:∀{l:List (Str×β)},List.lookup x (l.filter fun q=>f q.1)=none:=fun{l}=>by
     induction l with
     |nil=>rfl
     |cons q l ih=>
      rw [List.filter_cons]
      by_cases d:f q.1=true
      ·rw [if_pos d,List.lookup_cons,beq_false_of_ne fun c':x=q.1=>Bool.false_ne_true (e.symm.trans ((congrArg f (c.symm.trans c')).trans d))];exact ih
      ·rw [if_neg d];exact ih
    exact(zu this h).elim
  ·rw [beq_false_of_ne c]
   split at h
   ·rw [List.lookup_cons,beq_false_of_ne c]at h;exact xq h
   ·exact xq h
theorem part_ok{z:Z}(r:Rep z)(ks:List Str):Step z (z.to (partN ks z.st)):=by
 unfold partN
 cases e:nsL z.st 4 with
 |none=>exact .refl r
 |some p=>
  have h:=yN e
  obtain⟨o,w⟩:=r.own 4 _ h
  exact r.turn (s:=z.s) h (fun _ _=>rfl) w.hp (let⟨l,n,a⟩:=w.rel;⟨l,n,fun x sv e=>a.sub x sv (xq (f:=ks.elem) e),.inl rfl⟩) (.refl _)
theorem part_out{z:Z}{ks:List Str}{a:Addr}(n:z.Out a):(z.to (partN ks z.st)).Out a:=by
 unfold partN
 cases e:nsL z.st 4 with
 |none=>exact n
 |some p=>exact⟨fun j x h=>(put_of h).elim (fun q=>q.1▸n.1 4 _ (yN e)) fun q=>n.1 j x q.2,n.2⟩
theorem part_nx{ks:List Str}{st:St}:(partN ks st).nx=st.nx:=by
 unfold partN
 cases nsL st 4<;>rfl
noncomputable def zK(b0 n0:Nat)(kp:Kp)(I:St→Prop)(st:St):Prop:=match b0 with
 |0=>I st
 |b0+1=>anewP (b0+1) n0 (leafs kp.lf (partN kp.ks st)) kp.pv I (partN kp.ks st)
theorem anew_ok{zb z:Z}{b b0:Nat}{kp:Kp}{J:St→Prop}(S:Step zb z)(hb:zb.st.nx≤b)(hz:b≤z.st.nx)(h:zK b0 b kp J z.st):∃ρ' st',(∀i,i<b→ρ' i=z.ρ i)∧b≤st'.nx∧Step zb ⟨z.G,ρ',st',z.s⟩∧(∀a,z.Out a→Z.Out ⟨z.G,ρ',st',z.s⟩ a)∧J st':=by
 cases b0 with
 |zero=>exact⟨z.ρ,z.st,fun _ _=>rfl,hz,S,fun _ h=>h,h⟩
 |succ b0=>
  obtain⟨ρ',st',h1,h2,h3,h4,h5⟩:=canon_ok (z:=z.to (partN kp.ks z.st)) (S.trans (part_ok S.rep kp.ks)) hb h
  exact⟨ρ',st',h1,h2,h3,fun a n=>h4 a (part_out n),h5⟩
noncomputable def yZ(K:KF)(J:St→Prop):KF:=fun f st=>match f with
 | .next=>J st
 | .cont=>J st
 | .brk=>K .next st
 | .ret v=>K (.ret v) st
structure ForP(w:World)(P:Prims)(N:Nat)(t:Expr)(b:List Stmt)(fr:FrS)(b0 n0:Nat)(kp:Kp)(us:List SV)(K:KF)(I:Nat→St→Prop):Prop where
 body:∀(k:Nat) u st,us[k]? =some u→I k st→vc w P N (.A t u fr st fun st1=>vc w P N (.Ss b fr st1 (yZ K (zK b0 n0 kp (I (k+1))))))
 done:∀(k:Nat) st,us[k]? =none→I k st→K .next st
structure Way(w:World)(d:Nat)(z z0:Z)(y0:Y)(x:SV)(it:Value)(k:Nat)(z1:Z):Prop where
 it:LIv w d z y0 x it k z1
 nx:z0.st.nx≤z1.st.nx
 rho:∀i,i<z0.st.nx→z1.ρ i=z0.ρ i
inductive ForJ(w:World)(d:Nat)(z z0:Z)(y0:Y)(x:SV)(it:Value)(us:List SV)(I:Nat→St→Prop)(m:Nat):Shared→Prop
 |mk {k} {z1:Z}:Way w d z z0 y0 x it k z1→I k z1.st→us.length≤k+m→ForJ w d z z0 y0 x it us I m z1.s
section
variable {w:World}{P:Prims}{d N:Nat}{fr:FrS}{z z0 z1 z2:Z}{env:Env}{A:Around}{E:Value→Shared→Prop}{b:List Stmt}{b0:Nat}{kp:Kp}{us:List SV}{K:KF}{I:Nat→St→Prop}{x:SV}{it:Value}{y0:Y}{k:Nat}
theorem EnvOk.to(h:EnvOk z0.y fr env){y:Y}(hn:z0.st.nx≤y.n)(hr:∀i,i<z0.st.nx→y.ρ i=z0.ρ i):EnvOk y fr env:=
 ⟨h.scope,h.kind,Nat.lt_of_lt_of_le h.fid hn,h.locals.trans (hr _ h.fid).symm,h.cells.trans (List.map_congr_left fun p m=>congrArg (p.1,·) (hr _ (h.cn p m)).symm),fun p m=>Nat.lt_of_lt_of_le (h.cn p m) hn,h.globals,h.builtins,h.code⟩
theorem Way.anew(S0:Step z z0)(hy:Le y0 z0.y)(W:Way w d z z0 y0 x it k z1)(S:Step z1 z2){J:St→Prop}(h:zK b0 z0.st.nx kp J z2.st):∃z3,Way w d z z0 y0 x it k z3∧J z3.st∧z3.s=z2.s:=by
 obtain⟨ρ',st3,h1,h2,h3,h4,j⟩:=anew_ok (W.it.step.trans S) S0.le.nx (Nat.le_trans W.nx S.le.nx) h
 have rho':∀i,i<z0.st.nx→ρ' i=z0.ρ i:=fun i h=>(h1 i h).trans ((S.le.rho i (Nat.lt_of_lt_of_le h W.nx)).trans (W.rho i h))
 exact⟨⟨z2.G,ρ',st3,z2.s⟩,⟨W.it.move S h3 rfl rfl ⟨Nat.le_trans hy.nx h2,fun i h=>(rho' i (Nat.lt_of_lt_of_le h hy.nx)).trans (hy.rho i h),fun b o e=>S.le.ext b o (W.it.le.ext b o e)⟩ h4,h2,rho'⟩,j,rfl⟩
theorem for_loopX{i:Str}{tp:Pos}{R:Nat→St→Prop}(S0:Sound w P d)(body:∀(k:Nat) u st,us[k]? =some u→I k st→vc w P N (.A (.Name i tp) u fr st (R k)))(done:∀(k:Nat) st,us[k]? =none→I k st→K .next st)
  (hi:∀k st,zO x k st=some us[k]?) (h0:zK b0 z0.st.nx kp (I 0) z0.st) (ev:EnvOk z0.y fr env) (ha:AOk d A) (ok:Ok w z) (L:LInv w d z x it 0 z0)
  (run:∀k z2,Step z z2→Ok w z2→EnvOk z2.y fr env→R k z2.st→wpAny (model pw w) A (execs b env) (Post FRel (yZ K (zK b0 z0.st.nx kp (I (k+1)))) z2) (notedBy (model pw w) A env fun e s'=>cameBackBy (model pw w) A env E e s') z2.s):
  codeAny (model pw w) A (.forLoop (.Name i tp) it b [] env) (xr w A env E K z) z0.s:=by
 obtain⟨y0,L⟩:=L
 have Sz:=L.step
 have hy:=L.le
 obtain⟨z1,W1,j1,e1⟩:=Way.anew (z1:=z0) Sz hy ⟨L,Nat.le_refl _,fun _ _=>rfl⟩ (.refl Sz.rep) h0
 rw [←e1]
 refine codeAny_forLoop (ForJ w d z z0 y0 x it us I) (fun m s hI=> ?_) us.length (.mk W1 j1 (Nat.le_of_eq (Nat.zero_add _).symm)) (fun _=>rfl)
 obtain @⟨k,z1,W,j,hm⟩:=hI
 have o1:=W.it.step.ok ok
 refine W.it.turn ha o1 (hi k _) (fun q G s S=>wpAny_execs_nil (.mk S .next (done k _ q j))) fun v u G s q L hv=> ?_
 have W2:Way w d z z0 y0 x it (k+1) ⟨G,z1.ρ,z1.st,s⟩:=⟨L,W.nx,W.rho⟩
 have o2:=L.step.ok ok
 have ev2:EnvOk (Z.y ⟨G,z1.ρ,z1.st,s⟩) fr env:=ev.to W.nx W.rho
 refine(ya S0 (body k v _ q j) ⟨G,z1.ρ,z1.st,s⟩ env u rfl ev2 hv).go o2 ha fun z2 _ _ S2 o2 _ k2=>wm (run k z2 (L.step.trans S2) o2 (S2.env ev2) k2) fun f s p=> ?_
 obtain @⟨z3,f',_,S3,q3,k3⟩:=p
 have on:zK b0 z0.st.nx kp (I (k+1)) z3.st→∃m',m'<m∧ForJ w d z z0 y0 x it us I m' z3.s:=fun h=>by
  obtain⟨z4,W4,j4,e4⟩:=Way.anew Sz hy W2 (S2.trans S3) h
  rw [←e4]
  cases m with
  |zero=>exact(Nat.not_lt.mpr hm (List.getElem?_eq_some_iff.mp q).1).elim
  |succ m=>exact⟨m,Nat.lt_succ_self m,.mk W4 j4 (Nat.succ_add k m▸hm)⟩
 have SS:=L.step.trans (S2.trans S3)
 cases q3 with
 |next=>exact on k3
 |cont=>exact on k3
 |brk=>exact .mk SS .next k3
 |ret q=>exact .mk SS (.ret q) k3
theorem for_loop{i:Str}{tp:Pos}(S0:Sound w P d)(F:ForP w P N (.Name i tp) b fr b0 z0.st.nx kp us K I)(hi:∀k st,zO x k st=some us[k]?)(h0:zK b0 z0.st.nx kp (I 0) z0.st)(ev:EnvOk z0.y fr env)(ha:AOk d A)(ok:Ok w z)(L:LInv w d z x it 0 z0):
  codeAny (model pw w) A (.forLoop (.Name i tp) it b [] env) (xr w A env E K z) z0.s:=
 for_loopX S0 F.body F.done hi h0 ev ha ok L fun k z2 _ o2 ev2 h=>ya (t:= .Ss b fr z2.st _) S0 h z2 env rfl ev2 A _ ha o2
end
noncomputable def WhP(w:World)(P:Prims)(N:Nat)(t:Expr)(b:List Stmt)(fr:FrS)(b0 n0:Nat)(kp:Kp)(K:KF)(I:Nat→St→Prop):Prop:=
 ∀(m:Nat) st,I m st→vc w P N (.T t fr st fun s c st1=>way s c (vc w P N (.Ss b fr st1 (yZ K (zK b0 n0 kp fun st3=>∃m',m'<m∧I m' st3)))) (K .next st1))
inductive WhJ(z:Z)(I:Nat→St→Prop)(m:Nat):Shared→Prop
 |mk {z1:Z}:Step z z1→(∀i,i<z.st.nx→z1.ρ i=z.ρ i)→I m z1.st→WhJ z I m z1.s
section
variable {w:World}{P:Prims}{d N:Nat}{fr:FrS}{z z1:Z}{env:Env}{A:Around}{E:Value→Shared→Prop}{b:List Stmt}{t:Expr}{b0:Nat}{kp:Kp}{us:List SV}{K:KF}{I:Nat→St→Prop}{x:SV}{v:Value}{i:Str}{tp:Pos}{tr:KV→Prop}
theorem wh_anew(S:Step z z1){J:St→Prop}(h:zK b0 z.st.nx kp J z1.st):∃z3,Step z z3∧(∀i,i<z.st.nx→z3.ρ i=z.ρ i)∧J z3.st∧z3.s=z1.s:=by
 obtain⟨ρ',st3,h1,h2,h3,h4,j⟩:=anew_ok S (Nat.le_refl _) S.le.nx h
 exact⟨⟨z1.G,ρ',st3,z1.s⟩,h3,fun i h=>(h1 i h).trans (S.le.rho i h),j,rfl⟩
theorem wh_loop(S0:Sound w P d)(F:WhP w P N t b fr b0 z.st.nx kp K I){m:Nat}(h0:zK b0 z.st.nx kp (I m) z.st)(ev:EnvOk z.y fr env)(ha:AOk d A)(ok:Ok w z):codeAny (model pw w) A (.whileLoop t b [] env) (xr w A env E K z) z.s:=by
 obtain⟨z1,S1,r1,j1,e1⟩:=wh_anew (.refl ok.rep) h0
 rw [←e1]
 refine codeAny_whileLoop (WhJ z I) (fun m s hI=> ?_) m (.mk S1 r1 j1)
 obtain @⟨z1,S1,_,j⟩:=hI
 refine(ya S0 (F m _ j) z1 env rfl (S1.env ev)).go (S1.ok ok) ha fun z2 c u S2 o2 q k=>ite_p (xa k q (fun k=> ?_) fun k=>wpAny_execs_nil (.mk (S1.trans S2) .next k))
 refine(ya S0 k z2 env rfl ((S1.trans S2).env ev)).go o2 ha fun z3 f u S3 o3 q3 k3=> ?_
 have SS:=S1.trans (S2.trans S3)
 have on:zK b0 z.st.nx kp (fun st3=>∃m',m'<m∧I m' st3) z3.st→∃m',m'<m∧WhJ z I m' z3.s:=fun h=>by
  obtain⟨z4,S4,r4,⟨m',l,j⟩,e4⟩:=wh_anew SS h
  exact⟨m',l,e4▸ .mk S4 r4 j⟩
 cases q3 with
 |next=>exact on k3
 |cont=>exact on k3
 |brk=>exact .mk SS .next k3
 |ret q=>exact .mk SS (.ret q) k3
theorem yA(S0:Sound w P d)(hx:P.iter x z.st=some tr)(ht:tr fun x1 st1=>∃us I,(∀k st,zO x1 k st=some us[k]?)∧zK b0 st1.nx kp (I 0) st1∧ForP w P N (.Name i tp) b fr b0 st1.nx kp us K I)(q:VRel z.y x v)(ev:EnvOk z.y fr env)(ha:AOk d A)(ok:Ok w z):
  wpAny (model pw w) A (pyIter v) (fun it s=>codeAny (model pw w) A (.forLoop (.Name i tp) it b [] env) (xr w A env E K z) s) E z.s:=
 wm (S0.iter _ _ _ _ _ _ E hx ht q ha ok) fun it s p=>by
  obtain @⟨z1,x1,_,L,us,I,hi,h0,F⟩:=p
  exact for_loop S0 F hi h0 (L.step.env ev) ha ok L
end
noncomputable abbrev FlT:=Expr→SV→List Stmt→FrS→St→KF→Prop
noncomputable def FlOk(w:World)(d:Nat)(T:FlT):Prop:=∀t x b fr K z env v A E,T t x b fr z.st K→EnvOk z.y fr env→VRel z.y x v→AOk d A→Ok w z→
  wpAny (model pw w) A (pyIter v) (fun it s=>codeAny (model pw w) A (.forLoop t it b [] env) (xr w A env E K z) s) E z.s
noncomputable def lineN(t:Expr):Nat:=match t with
 | .Name _ p=>p.line
 |_=>0
noncomputable abbrev Prims.fl(P:Prims)(n:Nat)(T:FlT):Prims:={P with forl:=fun t x b fr st=>orE (zj (Nat.beq (lineN t) n) (some fun K=>T t x b fr st K)) (P.forl t x b fr st)}
theorem Sound.fl{w:World}{P:Prims}{d n:Nat}{T:FlT}(S:Sound w P d)(h:FlOk w d T):Sound w (P.fl n T) d:=
 {S with forl:=fun t x b fr tr K z env v A E he k ev q ha ok=>(yi he).elim (fun he=>let⟨_,he⟩:=zv he;h t x b fr K z env v A E (Eq.mpr (congrFun (Option.some.inj he) K) k) ev q ha ok) fun he=>S.forl t x b fr tr K z env v A E he k ev q ha ok}
noncomputable abbrev WhT:=Expr→List Stmt→FrS→St→KF→Prop
noncomputable def WhOk(w:World)(d:Nat)(T:WhT):Prop:=∀t b fr K z env A E,T t b fr z.st K→EnvOk z.y fr env→AOk d A→Ok w z→codeAny (model pw w) A (.whileLoop t b [] env) (xr w A env E K z) z.s
noncomputable abbrev Prims.wh(P:Prims)(n:Nat)(T:WhT):Prims:={P with loop:=fun t b fr st=>orE (zj (Nat.beq (lineN t) n) (some fun K=>T t b fr st K)) (P.loop t b fr st)}
theorem Sound.wh{w:World}{P:Prims}{d n:Nat}{T:WhT}(S:Sound w P d)(h:WhOk w d T):Sound w (P.wh n T) d:=
 {S with loop:=fun t b fr tr K z env A E he k ev ha ok=>(yi he).elim (fun he=>let⟨_,he⟩:=zv he;h t b fr K z env A E (Eq.mpr (congrFun (Option.some.inj he) K) k) ev ha ok) fun he=>S.loop t b fr tr K z env A E he k ev ha ok}
noncomputable def forP(s:Stmt):Expr×Expr×List Stmt:=match s with
 | .For t it b _ _=>(t,it,b)
 |_=>(e00,e00,[])
noncomputable def wu:Expr×Expr×List Stmt:=forP (sAt (tp 2).2.1 2)
noncomputable def csP:Str×Pos:=zT wu.1
noncomputable def csS(x a:SV)(c:Option SV)(l:List (Str×SV)):St:=⟨[(5,.cell c),(4,.ns "frame" (("candidates",x)::("approved",a)::l))],6⟩
noncomputable def addL(l:List (Str×SV))(st:St):St:=match nsL st 4 with
 |some p=>st.put 4 (.ns p.1 (p.2++l))
 |none=>st
noncomputable def csForT(w:World):FlT:=fun t x b fr st K=>((t,b)=(wu.1,wu.2.2)∧fr=x4∧∃x a c,st=csS x a c [])∧wv w x fun _=>∀l,K .next (addL l st)
noncomputable def csPr(w:World):Prims:={P0 w with iter:=iterB w}
theorem csPr_ok(w:World)(d:Nat):Sound w (csPr w) d:={P0_ok w d with iter:=iterB_ok.iter}
theorem cs_t:wu.1= .Name csP.1 csP.2:=by kernel_rfl
theorem cs_for1(w:World)(x a:SV)(c:Option SV)(s:Bool)(n:Int)(K:KF):vc w (csPr w) 20 (.A (.Name csP.1 csP.2) (.num s n) x4 (csS x a c []) fun st1=>vc w (csPr w) 20 (.Ss wu.2.2 x4 st1 K))=K .next (csS x a c [(csP.1,.num s n)]):=by kernel_rfl
theorem cs_for2(w:World)(x a v:SV)(c:Option SV)(s:Bool)(n:Int)(K:KF):vc w (csPr w) 20 (.A (.Name csP.1 csP.2) (.num s n) x4 (csS x a c [(csP.1,v)]) fun st1=>vc w (csPr w) 20 (.Ss wu.2.2 x4 st1 K))=K .next (csS x a c [(csP.1,.num s n)]):=by kernel_rfl
theorem nums_num{us:List SV}{ns:List (Bool×Int)}{u:SV}(h:zJ asN us=some ns)(m:u∈us):∃s n,(s,n)∈ns∧u= .num s n:=let⟨p,q,e⟩:=mapO_mem h m;⟨p.1,p.2,q,asN_ok e⟩
theorem csForT_ok(w:World)(d:Nat):FlOk w d (csForT w):=fun t x b fr K z env v A E h ev q ha ok=>by
 obtain⟨⟨e,rfl,x',a,c,hst⟩,h⟩:=h
 obtain⟨rfl,rfl⟩:=Prod.mk.inj e
 obtain⟨us,h1,h⟩:=zr h
 obtain⟨ns,h2,⟨h3,h4⟩,k⟩:=zr h
 rw [hst]at k
 obtain⟨tr,ht,hK⟩:=iterB_of (st:=z.st) h1 h3 h4
 rw [cs_t]
 refine yA (P:=csPr w) (N:=20) (b0:=0) (kp:=⟨[],[],[]⟩) (csPr_ok w d) ht (hK _ fun x1 hp hi hu=>⟨givesB x1,fun _ st=>∃l,st=csS x' a c l∧(l=[]∨∃v,l=[(csP.1,v)]),hi,⟨[],hst,.inl rfl⟩,⟨fun i u st hk hI=> ?_,fun _ st _ ⟨l,e,_⟩=>e▸k l⟩⟩) q ev ha ok
 obtain⟨l,rfl,hl⟩:=hI
 obtain⟨s,n,_,rfl⟩:=nums_num h2 (hu.mem_iff.mp (List.mem_of_getElem? hk))
 rcases hl with rfl|⟨v,rfl⟩
 ·exact(cs_for1 w x' a c s n _).mpr ⟨_,rfl,.inr ⟨_,rfl⟩⟩
 ·exact(cs_for2 w x' a v c s n _).mpr ⟨_,rfl,.inr ⟨_,rfl⟩⟩
noncomputable def P4(w:World):Prims:=((({P3 w with iter:=xp iterP (P3 w).iter}.sp 12 (csAllT w)).sp 14 (csAnyT w)).fl 9 (csForT w))
theorem P4_ok(w:World)(d:Nat):Sound w (P4 w) (d+3):=
 (((({P3_ok w (d+1)with iter:=iterP_ok.or (P3_ok w (d+1)).iter}:Sound w {P3 w with iter:=xp iterP (P3 w).iter} (d+3))).sp (csAllT_ok w d)).sp (csAnyT_ok w d)).fl (csForT_ok w (d+3))
noncomputable def csR(w:World)(x a:SV)(len:Int)(l:List Int)(c:SV)(R:Prop):Prop:=((len !=(l.length:Int))=true→False)∧((len !=(l.length:Int))=false→((wu.1,wu.2.2)=(wu.1,wu.2.2)∧x4=x4∧∃x' a' c',csS x a (some c) []=csS x' a' c' [])∧wv w x fun _=>List (Str×SV)→(xz.exp=xz.exp∧x4=x4)∧wv w x fun ns=>(∀p∈ns,0≤p.2)∧R)
noncomputable abbrev nu(p:Bool×Int):SV:= .num p.1 p.2
noncomputable abbrev csI(w:World)(x:SV)(ks:List (Str×SV))(K:SV→Prop):Prop:=yh w (P4 w) 60 30 0 [x] ks st0 (yb K)
noncomputable def csAnyR(w:World)(x:SV)(sm:Bool)(m:Int)(R:Prop):Prop:=(x9.exp=x9.exp∧x4=x4)∧∃sm' m',some (SO.cell (some (.num sm m)))=some (.cell (some (.num sm' m')))∧wv w x fun ns=>(∀p∈ns,p.2<m')∧R
inductive CsK:Type
 |no|non|num (s:Bool) (m:Int)
noncomputable def CsK.ks:CsK→List (Str×SV)
 | .no=> []
 | .non=> [("num_cand",.non)]
 | .num s m=> [("num_cand",.num s m)]
noncomputable def CsK.v:CsK→SV
 | .num s m=>.num s m
 |_=>.non
noncomputable def CsK.R(w:World)(x:SV)(R:Prop):CsK→Prop
 | .num s m=>csAnyR w x s m R
 |_=>R
noncomputable abbrev csL(w:World)(f:List SV→SV)(ns:List (Bool×Int))(c:CsK)(K:SV→Prop):Prop:=(∀p∈ns,p.2∈range6)∧ns.length≤4∧csR w (f (ns.map nu)) (.vset (!zy w) (yl ns)) ns.length (yl ns) c.v (c.R w (f (ns.map nu)) (K (.vset (!zy w) (yl ns))))
theorem cs_v2(w:World)(K:SV→Prop)(p q:Bool×Int):csI w (.vlist ([p,q].map nu)) CsK.non.ks K=csL w .vlist [p,q] .non K:=by kernel_rfl
theorem cs_v3(w:World)(K:SV→Prop)(p q r:Bool×Int):csI w (.vlist ([p,q,r].map nu)) CsK.non.ks K=csL w .vlist [p,q,r] .non K:=by kernel_rfl
theorem cs_v1(w:World)(K:SV→Prop)(p:Bool×Int):csI w (.vlist ([p].map nu)) CsK.no.ks K=csL w .vlist [p] .no K:=by kernel_rfl
theorem cs_v2'(w:World)(K:SV→Prop)(p q:Bool×Int):csI w (.vlist ([p,q].map nu)) CsK.no.ks K=csL w .vlist [p,q] .no K:=by kernel_rfl
theorem cs_t1(w:World)(K:SV→Prop)(p:Bool×Int):csI w (.tup ([p].map nu)) CsK.no.ks K=csL w .tup [p] .no K:=by kernel_rfl
theorem cs_t2(w:World)(K:SV→Prop)(p q:Bool×Int):csI w (.tup ([p,q].map nu)) CsK.no.ks K=csL w .tup [p,q] .no K:=by kernel_rfl
theorem cs_t3(w:World)(K:SV→Prop)(p q r:Bool×Int):csI w (.tup ([p,q,r].map nu)) CsK.no.ks K=csL w .tup [p,q,r] .no K:=by kernel_rfl
theorem cs_n2(w:World)(K:SV→Prop)(p q:Bool×Int)(s:Bool)(m:Int):csI w (.tup ([p,q].map nu)) (CsK.num s m).ks K=csL w .tup [p,q] (.num s m) K:=by kernel_rfl
theorem cs_n3(w:World)(K:SV→Prop)(p q r:Bool×Int)(s:Bool)(m:Int):csI w (.tup ([p,q,r].map nu)) (CsK.num s m).ks K=csL w .tup [p,q,r] (.num s m) K:=by kernel_rfl
theorem cs_n4(w:World)(K:SV→Prop)(p q r t:Bool×Int)(s:Bool)(m:Int):csI w (.tup ([p,q,r,t].map nu)) (CsK.num s m).ks K=csL w .tup [p,q,r,t] (.num s m) K:=by kernel_rfl
noncomputable abbrev csV(w:World)(led:Bool)(xs:List Int)(c:CsK)(K:SV→Prop):Prop:=led= !zy w∧csR w (.vset led xs) (.vset led xs) xs.length xs c.v (c.R w (.vset led xs) (K (.vset led xs)))
theorem cs_s(w:World)(K:SV→Prop)(led:Bool)(xs:List Int):csI w (.vset led xs) CsK.no.ks K=csV w led xs .no K:=by kernel_rfl
theorem cs_sn(w:World)(K:SV→Prop)(led:Bool)(xs:List Int)(s:Bool)(m:Int):csI w (.vset led xs) (CsK.num s m).ks K=csV w led xs (.num s m) K:=by kernel_rfl
theorem numsB_of{w:World}{x:SV}{us:List SV}{ns:List (Bool×Int)}{f:List (Bool×Int)→Prop}(h1:wZ x=some us)(h2:zJ asN us=some ns)(h3:ledOk w x∧zt us=true)(h:f ns):wv w x f:=by
 unfold wv
 rw [h1]
 show zg (zJ asN us) _
 rw [h2]
 exact⟨h3,h⟩
theorem mapO_nu:∀ns:List (Bool×Int),zJ asN (ns.map nu)=some ns∧zt (ns.map nu)=true
 | []=>⟨rfl,rfl⟩
 |p::r=>by
  obtain⟨a,b⟩:=mapO_nu r
  exact⟨by show(zJ asN (r.map nu)).bind _=_;rw [a];rfl,b⟩
theorem csR_of{w:World}{x a:SV}{us:List SV}{ns:List (Bool×Int)}{l:List Int}{len:Int}{c:CsK}{R:Prop}(h1:wZ x=some us)(h2:zJ asN us=some ns)(h3:ledOk w x∧zt us=true)(hl:len=l.length)(h0:∀p∈ns,0≤p.2)(hc:∀s m,c= .num s m→∀p∈ns,p.2<m)(k:R):csR w x a len l c.v (c.R w x R):=by
 have k:c.R w x R:=by
  cases c with
  |num s m=>exact⟨⟨rfl,rfl⟩,s,m,rfl,numsB_of h1 h2 h3 ⟨hc s m rfl,k⟩⟩
  |_=>exact k
 exact⟨fun e=>bne_iff_ne.mp e hl,fun _=>⟨⟨rfl,rfl,_,_,_,rfl⟩,numsB_of h1 h2 h3 fun _=>⟨⟨rfl,rfl⟩,numsB_of h1 h2 h3 ⟨h0,k⟩⟩⟩⟩
noncomputable def CsK.n:CsK→Nat
 | .no=>0
 | .non=>1
 | .num _ _=>2
noncomputable def lt(k:Bool):List SV→SV:=match k with
 |true=>.tup
 |false=>.vlist
noncomputable def xF(k:Bool)(n:Nat)(c:Nat):Bool:=match k,c with
 |false,0=>Nat.beq n 1||Nat.beq n 2
 |false,1=>Nat.beq n 2||Nat.beq n 3
 |true,0=>Nat.beq n 1||(Nat.beq n 2||Nat.beq n 3)
 |true,2=>Nat.beq n 2||(Nat.beq n 3||Nat.beq n 4)
 |_,_=>false
theorem cs_list(w:World)(K:SV→Prop)(k:Bool)(ns:List (Bool×Int))(c:CsK)(h:xF k ns.length c.n=true):csI w (lt k (ns.map nu)) c.ks K=csL w (lt k) ns c K:=by
 rcases ns with _|⟨p,_|⟨q,_|⟨r,_|⟨t,_|⟨_,_⟩⟩⟩⟩⟩<;>rcases c with _|_|⟨s,m⟩<;>cases k<;>first|exact Bool.noConfusion h|skip
 ·exact cs_v1 w K p
 ·exact cs_t1 w K p
 ·exact cs_v2' w K p q
 ·exact cs_t2 w K p q
 ·exact cs_v2 w K p q
 ·exact cs_n2 w K p q s m
 ·exact cs_t3 w K p q r
 ·exact cs_v3 w K p q r
 ·exact cs_n3 w K p q r s m
 ·exact cs_n4 w K p q r t s m
noncomputable def candT(w:World)(x:SV)(c:CsK)(st:St):Tr:=match x with
 | .vset led xs=>zj (!Nat.beq c.n 1) (some fun K=>led= !zy w∧(∀s m,c= .num s m→∀n∈xs,n<m)∧K x st)
 | .vlist us=>candL w false us c st
 | .tup us=>candL w true us c st
 |_=>none
where candL (w:World) (k:Bool) (us:List SV) (c:CsK) (st:St):Tr:=(zJ asN us).bind fun ns=>zj (Nat.ble ns.length 4&&xF k ns.length c.n) (some fun K=>(∀p∈ns,p.2∈range6∧∀s m,c= .num s m→p.2<m)∧(yl ns).length=ns.length∧K (.vset (!zy w) (yl ns)) st)
noncomputable def kOf(ks:List (Str×SV)):Option CsK:=match ks with
 | []=>some .no
 | [p]=>zj (p.1=="num_cand") (match p.2 with
  | .non=>some .non
  | .num s m=>some (.num s m)
  |_=>none)
 |_=>none
noncomputable def candH(w:World):BT:=fun xs ks st=>match xs with
 | [x]=>(kOf ks).bind fun c=>candT w x c st
 |_=>none
theorem kOf_ok{ks:List (Str×SV)}{c:CsK}(h:kOf ks=some c):ks=c.ks:=by
 rcases ks with _|⟨⟨n,v⟩,_|⟨_,_⟩⟩
 ·cases h;rfl
 ·obtain⟨e,h⟩:=zv h
  obtain rfl:n="num_cand":=beq_iff_eq.mp e
  induction v using SV.casesOn with
  |non=>cases h;rfl
  |num s m=>cases h;rfl
  |_=>exact(zu rfl h).elim
 ·exact(zu rfl h).elim
theorem xf:∀{us:List SV} {ns:List (Bool×Int)},zJ asN us=some ns→us=ns.map nu
 | [],_,h=>by cases h;rfl
 |u::us,_,h=>by
  obtain⟨b,e1,h⟩:=zz h
  obtain⟨r,e2,h⟩:=zz h
  cases h
  exact List.cons_eq_cons.mpr ⟨asN_ok e1,xf e2⟩
theorem range6_pos{n:Int}(h:n∈range6):0≤n:=by
 have:∀n∈range6,0≤n:=by decide
 exact this n h
section
variable {w:World}{d:Nat}{z:Z}{K:KV}{x:SV}{v:Value}{c:CsK}
theorem ks_pure(c:CsK):pureF c.ks=true:=by cases c<;>rfl
theorem candL_ok{k:Bool}{us:List SV}{t:KV→Prop}{kvs:List (Str×Value)}(e:candT.candL w k us c z.st=some t)(h:t K)(q:VRel z.y (lt k us) v)(qk:FRels z.y c.ks kvs):W w (d+4) VRel K z (call (.ref 30) [v] kvs):=by
 obtain⟨ns,e1,e⟩:=zz e
 obtain⟨e2,e⟩:=zv e
 cases e
 obtain⟨h1,h2,h3⟩:=h
 obtain rfl:=xf e1
 obtain⟨m1,m2⟩:=mapO_nu ns
 have hp:(lt k (ns.map nu)).pure=true:=by
  cases k
  ·rfl
  ·exact m2
 refine zM (P4_ok w d) (k:=0) (n:=60) (show zt [_]=true from(Bool.and_eq_true _ _).mpr ⟨hp,rfl⟩) (ks_pure c) ((cs_list w _ k ns c (zx e2).2).mpr ⟨fun p m=>(h1 p m).1,Nat.le_of_ble_eq_true (zx e2).1,csR_of (us:=ns.map nu) ?_ m1 ⟨?_,m2⟩ (congrArg _ h2.symm) (fun p m=>range6_pos (h1 p m).1) (fun s m e p mm=>(h1 p mm).2 s m e) h3⟩) (.cons q .nil) qk
 ·cases k<;>rfl
 ·cases k<;>exact trivial
theorem candH_ok:BTOk w (d+4) (.ref 30) (candH w):=fun xs ks t K z vs kvs e h q qk=>by
 rcases xs with _|⟨x,_|⟨_,_⟩⟩
 ·exact(zu rfl e).elim
 ·obtain⟨c,e1,e2⟩:=zz e
  clear e
  obtain rfl:=kOf_ok e1
  obtain⟨v,rfl,q1⟩:=q.one
  clear q
  induction x using SV.casesOn with
  |vlist us=>exact candL_ok (k:=false) e2 h q1 qk
  |tup us=>exact candL_ok (k:=true) e2 h q1 qk
  |vset led xs=>
   obtain⟨e3,e⟩:=zv e2
   cases e
   obtain⟨h0,h1,h2⟩:=h
   have sm:smallL xs:=let⟨_,hs⟩:=q1.inv;hs.1
   obtain⟨m1,m2⟩:=mapO_nu (xs.map fun n=>(true,n))
   have e:(xs.map fun n=>(true,n)).map nu=xs.map SV.sint:=List.map_map ..
   rw [e]at m1 m2
   have R:∀{R:Prop},R→csR w (.vset led xs) (.vset led xs) xs.length xs c.v (c.R w (.vset led xs) R):=fun k=>csR_of rfl m1 ⟨h0,m2⟩ rfl (fun p m=>by obtain⟨n,m1,rfl⟩:=List.mem_map.mp m;exact range6_pos (sm.six m1)) (fun s m' e p m=>by obtain⟨n,m1,rfl⟩:=List.mem_map.mp m;exact h1 s m' e n m1) k
   cases c with
   |no=>exact zM (P4_ok w d) (k:=0) (n:=60) rfl rfl ((cs_s w _ led xs).mpr ⟨h0,R h2⟩) (.cons q1 .nil) qk
   |num s m=>exact zM (P4_ok w d) (k:=0) (n:=60) rfl rfl ((cs_sn w _ led xs s m).mpr ⟨h0,R h2⟩) (.cons q1 .nil) qk
   |non=>exact Bool.noConfusion e3
  |_=>exact(zu rfl e2).elim
 ·exact(zu rfl e).elim
end
noncomputable def okT{α:Type}(lt:Nat→Nat→Bool)(N:Nat):KasT α→(α→Prop)→Prop
 | .ret a,Q=>Q a
 | .ask i j k,Q=>i<N∧j<N∧okT lt N (k (lt i j)) Q
theorem xh{α β:Type}{lt N}{f:α→KasT β}{Q:β→Prop}:∀{t:KasT α},okT lt N t (fun a=>okT lt N (f a) Q)→okT lt N (t.bind f) Q
 | .ret _,h=>h
 | .ask _ _ _,h=>⟨h.1,h.2.1,xh h.2.2⟩
noncomputable abbrev ga(p:Array Nat)(i:Nat):Nat:=p.getD i 0
theorem ga_eq(p:Array Nat)(i:Nat):ga p i=(p[i]?).getD 0:=Array.getD_eq_getD_getElem? ..
theorem ga_rev{p:Array Nat}{i j:Nat}(hj:j≤p.size)(k:Nat):ga (kas_rev p i j) k=if i≤k∧k<j then ga p (i+j-1-k)else ga p k:=by
 unfold kas_rev
 rw [ga_eq,getElem?_mirror_all hj]
 split<;>rw [ga_eq]
theorem ga_bub{p:Array Nat}{k l:Nat}(hk:k<p.size)(hl:l≤k)(i:Nat):ga (bubble p k (k-l)) i=if i=l then ga p k else if l<i∧i≤k then ga p (i-1)else ga p i:=by
 rw [ga_eq,getElem?_bubble hk _ (Nat.sub_le ..),Nat.sub_sub_self hl,ga_eq p k,ga_eq p (i-1),ga_eq p i]
 split
 ·rfl
 ·split<;>rfl
structure Ord(lt:Nat→Nat→Bool):Prop where
 asym:∀i j,lt i j=true→lt j i=false
 tr:∀i j k,lt j i=false→lt k j=false→lt k i=false
noncomputable def perm(N:Nat)(p:Array Nat):Prop:=p.toList.Perm (List.range N)
section
variable {lt:Nat→Nat→Bool}{N:Nat}{p:Array Nat}{u:Bool}
theorem perm.size(h:perm N p):p.size=N:=Array.length_toList.symm.trans (h.length_eq.trans List.length_range)
theorem perm.at(h:perm N p){i:Nat}(hi:i<N):ga p i<N:=by
 have hi:i<p.size:=h.size.symm▸hi
 rw [ga_eq,Array.getElem?_eq_getElem hi]
 exact List.mem_range.mp (h.mem_iff.mp (Array.mem_toList_iff.mpr (Array.getElem_mem hi)))
theorem perm.rev{i j}(h:perm N p):perm N (kas_rev p i j):=(Array.perm_iff_toList_perm.mp (mirror_perm p i j _)).trans h
theorem perm.bub{i j}(h:perm N p):perm N (bubble p i j):=(Array.perm_iff_toList_perm.mp (bubble_perm p i j)).trans h
noncomputable def Rl(lt:Nat→Nat→Bool)(u:Bool)(x y:Nat):Prop:=match u with
 |true=>lt y x=false
 |false=>lt x y=false
noncomputable def Srt(lt:Nat→Nat→Bool)(u:Bool)(p:Array Nat)(b:Nat):Prop:=∀i j,i≤j→j<b→Rl lt u (ga p i) (ga p j)
noncomputable def Eqs(lt:Nat→Nat→Bool)(p:Array Nat)(a b:Nat):Prop:=∀i j,a≤i→i<b→a≤j→j<b→lt (ga p i) (ga p j)=false
theorem Ord.irr(o:Ord lt)(i:Nat):lt i i=false:=by
 cases e:lt i i with
 |false=>rfl
 |true=>exact e.symm.trans (o.asym i i e)
theorem Ord.rfl'(o:Ord lt)(i:Nat):Rl lt u i i:=by cases u<;>exact o.irr i
theorem Ord.trans(o:Ord lt){i j k:Nat}(a:Rl lt u i j)(b:Rl lt u j k):Rl lt u i k:=by
 cases u
 ·exact o.tr _ _ _ b a
 ·exact o.tr _ _ _ a b
theorem Srt.one(o:Ord lt):Srt lt u p 1:=fun i j h k=>by
 obtain rfl:=Nat.lt_one_iff.mp k
 obtain rfl:=Nat.le_zero.mp h
 exact o.rfl' _
theorem Srt.snoc(o:Ord lt){c}(h:Srt lt u p (c+1))(e:Rl lt u (ga p c) (ga p (c+1))):Srt lt u p (c+2):=fun i j hij hj=>by
 rcases Nat.lt_or_ge j (c+1)with q|q
 ·exact h i j hij q
 ·obtain rfl:=Nat.le_antisymm (Nat.le_of_lt_succ hj) q
  rcases Nat.lt_or_ge i (c+1)with r|r
  ·exact o.trans (h i c (Nat.le_of_lt_succ r) (Nat.lt_succ_self c)) e
  ·obtain rfl:=Nat.le_antisymm hij r
   exact o.rfl' _
theorem mir{c e k:Nat}(h1:c≤k)(h2:k<e):c≤c+e-1-k∧c+e-1-k<e:=by
 obtain⟨t,rfl⟩:=Nat.exists_eq_add_of_lt h2
 have e:c+(k+t+1) -1-k=c+t:=(congrArg (· -k) (Nat.add_left_comm c k t)).trans (Nat.add_sub_cancel_left ..)
 exact e.symm▸⟨Nat.le_add_right ..,Nat.lt_succ_of_le (Nat.add_le_add_right h1 t)⟩
theorem Srt.rev{b}(h:Srt lt false p b)(hb:b≤p.size):Srt lt true (kas_rev p 0 b) b:=fun i j hij hj=>by
 have hi:=Nat.lt_of_le_of_lt hij hj
 rw [ga_rev hb,ga_rev hb,if_pos ⟨Nat.zero_le _,hi⟩,if_pos ⟨Nat.zero_le _,hj⟩]
 exact h _ _ (Nat.sub_le_sub_left hij _) (mir (Nat.zero_le _) hi).2
theorem Srt.block{b c e}(h:Srt lt false p b)(hq:Eqs lt p c e)(he:e≤b)(hb:b≤p.size):Srt lt false (kas_rev p c e) b:=fun i j hij hj=>by
 rw [ga_rev (Nat.le_trans he hb),ga_rev (Nat.le_trans he hb)]
 by_cases q:c≤i∧i<e<;>by_cases r:c≤j∧j<e
 ·rw [if_pos q,if_pos r];exact hq _ _ (mir q.1 q.2).1 (mir q.1 q.2).2 (mir r.1 r.2).1 (mir r.1 r.2).2
 ·rw [if_pos q,if_neg r];exact h _ _ (Nat.le_trans (Nat.le_of_lt (mir q.1 q.2).2) (Nat.not_lt.mp fun k=>r ⟨Nat.le_trans q.1 hij,k⟩)) hj
 ·rw [if_neg q,if_pos r];exact h _ _ (Nat.le_trans (Nat.le_of_lt (Nat.not_le.mp fun k=>q ⟨k,Nat.lt_of_le_of_lt hij r.2⟩)) (mir r.1 r.2).1) (Nat.lt_of_lt_of_le (mir r.1 r.2).2 he)
 ·rw [if_neg q,if_neg r];exact h _ _ hij hj
theorem okT_if{α:Type}{a b:Nat}{k:Bool→KasT α}{Q:α→Prop}(h1:a<N)(h2:b<N)(ht:lt a b=true→okT lt N (k true) Q)(hf:lt a b=false→okT lt N (k false) Q):okT lt N (.ask a b k) Q:=
 ⟨h1,h2,by cases e:lt a b;exact hf e;exact ht e⟩
theorem asc_ok(o:Ord lt)(hp:perm N p):∀(f n:Nat),n+1+f=N→Srt lt true p (n+1)→∀{Q:Nat→Prop},(∀m,m<N→Srt lt true p (m+1)→(m+1=N∨lt (ga p (m+1)) (ga p m)=true)→Q (m+1))→okT lt N (kas_asc p f (n+1)) Q
 |0,n,hN,hu,Q,k=>k n (Nat.lt_of_lt_of_eq (Nat.lt_succ_self n) hN) hu (.inl hN)
 |f+1,n,hN,hu,Q,k=>by
  have h1:n+1<N:=hN▸Nat.lt_add_of_pos_right (Nat.succ_pos f)
  have h2:n<N:=Nat.lt_of_succ_lt h1
  exact okT_if (hp.at h1) (hp.at h2) (fun e=>k n h2 hu (.inr e)) fun e=>asc_ok o hp f (n+1) ((Nat.succ_add_eq_add_succ ..).trans hN) (hu.snoc o e) k
theorem Eqs.one(o:Ord lt){n:Nat}:Eqs lt p n (n+1):=fun i j a b c d=>Nat.le_antisymm (Nat.le_of_lt_succ b) a▸Nat.le_antisymm (Nat.le_of_lt_succ d) c▸o.irr _
theorem Eqs.snoc(o:Ord lt){c n:Nat}(hc:c≤n)(h:Eqs lt p c (n+1))(a:lt (ga p (n+1)) (ga p n)=false)(b:lt (ga p n) (ga p (n+1))=false):Eqs lt p c (n+2):=fun i j h1 h2 h3 h4=>by
 have hn:=Nat.lt_succ_self n
 rcases Nat.lt_or_ge i (n+1)with q|q<;>rcases Nat.lt_or_ge j (n+1)with r|r
 ·exact h i j h1 q h3 r
 ·exact Nat.le_antisymm (Nat.le_of_lt_succ h4) r▸o.tr _ _ _ b (h i n h1 q hc hn)
 ·exact Nat.le_antisymm (Nat.le_of_lt_succ h2) q▸o.tr _ _ _ (h n j hc hn h3 r) a
 ·exact Nat.le_antisymm (Nat.le_of_lt_succ h4) r▸Nat.le_antisymm (Nat.le_of_lt_succ h2) q▸o.irr _
theorem desc_ok(o:Ord lt):∀(f:Nat) (p:Array Nat) (c q:Nat),perm N p→c+q+1+f=N→Srt lt false p (c+q+1)→Eqs lt p c (c+q+1)→∀{Q:Array Nat×Nat×Nat→Prop},
  (∀p' c' q',perm N p'→c'+q'<N→Srt lt false p' (c'+q'+1)→Eqs lt p' c' (c'+q'+1)→Q (p',c'+q'+1,q'))→okT lt N (kas_desc f p (c+q+1) q) Q
 |0,p,c,q,hp,hN,hd,he,Q,k=>k p c q hp (Nat.lt_of_lt_of_eq (Nat.lt_succ_self _) hN) hd he
 |f+1,p,c,q,hp,hN,hd,he,Q,k=>by
  have h1:c+q+1<N:=hN▸Nat.lt_add_of_pos_right (Nat.succ_pos f)
  have h2:c+q<N:=Nat.lt_of_succ_lt h1
  have hN':c+q+1+1+f=N:=(Nat.succ_add_eq_add_succ ..).trans hN
  refine okT_if (hp.at h1) (hp.at h2) (fun e=> ?_) fun e=>okT_if (hp.at h2) (hp.at h1) (fun _=>k p c q hp h2 hd he) fun e2=>desc_ok o f p c (q+1) hp hN' (hd.snoc o (show Rl lt false _ _ from e2)) (he.snoc o (Nat.le_add_right ..) e e2) k
  have hd':=hd.snoc o (show Rl lt false _ _ from o.asym _ _ e)
  show okT lt N (if q>0 then kas_desc f (kas_rev p (c+(q+1) -(q+1)) (c+q+1)) (c+q+1+0+1) 0 else kas_desc f p (c+q+1+0+1) 0) Q
  rw [Nat.add_sub_cancel]
  split
  ·exact desc_ok o f _ (c+q+1) 0 hp.rev hN' (hd'.block he (Nat.le_succ _) (hp.size.symm▸h1)) (.one o) k
  ·exact desc_ok o f _ (c+q+1) 0 hp hN' hd' (.one o) k
theorem tail3_ok(o:Ord lt){n:Nat}(hp:perm N p)(hn:n<N)(hd:Srt lt false p (n+1)){Q:Nat×Array Nat→Prop}(k:∀m p',perm N p'→m<N→Srt lt true p' (m+1)→Q (m+1,p')):okT lt N (kas_tail3 (n+1) N p) Q:=
 xh (asc_ok o hp.rev (N-(n+1)) n (Nat.add_sub_cancel' hn) (hd.rev (hp.size.symm▸hn)) fun m a c _=>k m _ hp.rev a c)
theorem descPart_ok(o:Ord lt){n:Nat}(hp:perm N p)(hn:n+1<N)(hd:Srt lt false p (n+2)){Q:Nat×Array Nat→Prop}(k:∀m p',perm N p'→m<N→Srt lt true p' (m+1)→Q (m+1,p')):okT lt N (kas_descPart (n+1) N p) Q:=
 xh (desc_ok o _ p (n+1) 0 hp (Nat.add_sub_cancel' hn) hd (.one o) fun p' c q hp' h d e=>by
  show okT lt N (if q>0 then kas_tail3 (c+q+1) N (kas_rev p' (c+(q+1) -(q+1)) (c+q+1))else kas_tail3 (c+q+1) N p') Q
  rw [Nat.add_sub_cancel]
  split
  ·exact tail3_ok o hp'.rev h (d.block e (Nat.le_refl _) (hp'.size.symm▸h)) k
  ·exact tail3_ok o hp' h d k)
theorem count_ok(o:Ord lt)(hp:perm N p)(h1:0<N){Q:Nat×Array Nat→Prop}(k:∀m p',perm N p'→m<N→Srt lt true p' (m+1)→Q (m+1,p')):okT lt N (kas_count N p) Q:=
 xh (asc_ok o hp (N-1) 0 (Nat.add_sub_cancel' h1) (.one o) fun n a c d=>by
  show okT lt N (if(n+1==N)=true then .ret (n+1,p)else if n+1>1 then .ask (ga p 0) (ga p n) fun c=>if c=true then .ret (n+1,p)else kas_descPart (n+1) N (kas_rev p 0 (n+1))else kas_descPart (n+1) N p) Q
  split
  ·exact k n p hp a c
  ·rename_i hne
   have hne:n+1≠N:=fun q=>hne (beq_iff_eq.mpr q)
   have hlt:n+1<N:=Nat.lt_of_le_of_ne a hne
   have e:lt (ga p (n+1)) (ga p n)=true:=d.resolve_left hne
   split
   ·refine okT_if (hp.at h1) (hp.at a) (fun _=>k n p hp a c) fun e3=> ?_
    have all:Eqs lt p 0 (n+1):=fun i j _ hi _ hj=>o.tr _ _ _ (c j n (Nat.le_of_lt_succ hj) (Nat.lt_succ_self n)) (o.tr _ _ _ e3 (c 0 i (Nat.zero_le _) hi))
    have dn:Srt lt false p (n+2):=Srt.snoc o (fun i j hij hj=>all i j (Nat.zero_le _) (Nat.lt_of_le_of_lt hij hj) (Nat.zero_le _) hj) (show Rl lt false _ _ from o.asym _ _ e)
    exact descPart_ok o hp.rev hlt (dn.block all (Nat.le_succ _) (hp.size.symm▸hlt)) k
   ·obtain rfl:n=0:=Nat.le_zero.mp (Nat.not_lt.mp fun q=> ‹¬n+1>1› (Nat.succ_lt_succ q))
    exact descPart_ok o hp hlt (Srt.snoc o (.one o) (show Rl lt false _ _ from o.asym _ _ e)) k)
theorem mid_of{l r:Nat}(h:l<r):l≤(l+r)/2∧(l+r)/2<r:=
 ⟨(Nat.le_div_iff_mul_le (by decide)).mpr (Nat.mul_two l▸Nat.add_le_add_left (Nat.le_of_lt h) l),Nat.div_lt_of_lt_mul (Nat.two_mul r▸Nat.add_lt_add_right h r)⟩
theorem splace_ok(o:Ord lt){k:Nat}(hp:perm N p)(hk:k<N)(hu:Srt lt true p k){Q:Nat→Prop}(c:∀m,m≤k→(∀i,i<m→lt (ga p k) (ga p i)=false)→(∀i,m≤i→i<k→lt (ga p k) (ga p i)=true)→Q m):∀(f l r:Nat),l≤r→r≤k→r≤l+f→(∀i,i<l→lt (ga p k) (ga p i)=false)→(∀i,r≤i→i<k→lt (ga p k) (ga p i)=true)→okT lt N (kas_place p k f l r) Q
 |0,l,r,h1,h2,h3,hl,hr=>c l (Nat.le_trans h1 h2) hl fun i a=>hr i (Nat.le_trans h3 a)
 |f+1,l,r,h1,h2,h3,hl,hr=>by
  show okT lt N (if l≥r then _ else _) Q
  by_cases q:l≥r
  ·rw [if_pos q];exact c l (Nat.le_trans h1 h2) hl fun i a=>hr i (Nat.le_trans q a)
  ·rw [if_neg q]
   obtain⟨m1,m2⟩:=mid_of (Nat.not_le.mp q)
   have mk:=Nat.lt_of_lt_of_le m2 h2
   refine okT_if (hp.at hk) (hp.at (Nat.lt_trans mk hk)) (fun e=>splace_ok o hp hk hu c f l _ m1 (Nat.le_of_lt mk) (Nat.le_of_lt_succ (Nat.lt_of_lt_of_le m2 h3)) hl fun i a b=> ?_) fun e=>splace_ok o hp hk hu c f _ r m2 h2 (Nat.le_trans h3 (Nat.le_trans (Nat.succ_le_succ (Nat.add_le_add_right m1 f)) (Nat.le_of_eq (Nat.succ_add ..).symm))) (fun i a=>o.tr _ _ _ (hu i _ (Nat.le_of_lt_succ a) mk) e) hr
   cases e2:lt (ga p k) (ga p i)with
   |true=>rfl
   |false=>exact Bool.noConfusion (e.symm.trans (o.tr _ _ _ (hu _ i a b) e2))
theorem bub_lt{k m i:Nat}(hk:k<p.size)(hm:m≤k)(h:i<m):ga (bubble p k (k-m)) i=ga p i:=(ga_bub hk hm i).trans ((if_neg (Nat.ne_of_lt h)).trans (if_neg fun q=>Nat.lt_asymm h q.1))
theorem bub_eq{k m:Nat}(hk:k<p.size)(hm:m≤k):ga (bubble p k (k-m)) m=ga p k:=(ga_bub hk hm m).trans (if_pos rfl)
theorem bub_gt{k m i:Nat}(hk:k<p.size)(hm:m≤i)(h:i<k):ga (bubble p k (k-m)) (i+1)=ga p i:=(ga_bub hk (Nat.le_trans hm (Nat.le_of_lt h)) (i+1)).trans ((if_neg (Nat.ne_of_gt (Nat.lt_succ_of_le hm))).trans (if_pos ⟨Nat.lt_succ_of_le hm,h⟩))
theorem Srt.ins(o:Ord lt){k m:Nat}(hk:k<p.size)(hm:m≤k)(hu:Srt lt true p k)(h1:∀i,i<m→lt (ga p k) (ga p i)=false)(h2:∀i,m≤i→i<k→lt (ga p k) (ga p i)=true):Srt lt true (bubble p k (k-m)) (k+1):=by
 intro i j hij hj
 rcases Nat.lt_trichotomy j m with q|rfl|q
 ·rw [bub_lt hk hm q,bub_lt hk hm (Nat.lt_of_le_of_lt hij q)]
  exact hu i j hij (Nat.lt_of_lt_of_le q hm)
 ·rw [bub_eq hk hm]
  rcases Nat.lt_or_ge i j with r|r
  ·rw [bub_lt hk hm r];exact h1 i r
  ·obtain rfl:=Nat.le_antisymm hij r
   rw [bub_eq hk hm];exact o.rfl' _
 ·obtain⟨j,rfl⟩:=Nat.exists_eq_succ_of_ne_zero (Nat.ne_of_gt (Nat.lt_of_le_of_lt (Nat.zero_le _) q))
  have mj:=Nat.le_of_lt_succ q
  have jk:=Nat.lt_of_succ_lt_succ hj
  rw [bub_gt hk mj jk]
  rcases Nat.lt_trichotomy i m with r|rfl|r
  ·rw [bub_lt hk hm r];exact hu i j (Nat.le_of_lt (Nat.lt_of_lt_of_le r mj)) jk
  ·rw [bub_eq hk hm];exact o.asym _ _ (h2 j mj jk)
  ·obtain⟨i,rfl⟩:=Nat.exists_eq_succ_of_ne_zero (Nat.ne_of_gt (Nat.lt_of_le_of_lt (Nat.zero_le _) r))
   rw [bub_gt hk (Nat.le_of_lt_succ r) (Nat.lt_of_succ_le (Nat.le_trans hij jk))]
   exact hu i j (Nat.le_of_succ_le_succ hij) jk
theorem bin_ok(o:Ord lt):∀(f:Nat) (p:Array Nat) (k:Nat),perm N p→k+f=N→Srt lt true p k→okT lt N (kas_bin f p k) fun p=>perm N p∧Srt lt true p N
 |0,p,k,hp,hk,hu=>⟨hp,hk▸hu⟩
 |f+1,p,k,hp,hk,hu=>by
  have h:k<N:=hk▸Nat.lt_add_of_pos_right (Nat.succ_pos f)
  exact xh (splace_ok o hp h hu (fun m hm h1 h2=>bin_ok o f _ (k+1) hp.bub ((Nat.succ_add_eq_add_succ ..).trans hk) (hu.ins o (hp.size.symm▸h) hm h1 h2)) k 0 k (Nat.zero_le _) (Nat.le_refl _) (Nat.le_of_eq (Nat.zero_add k).symm) (fun i a=>(Nat.not_lt_zero i a).elim) fun i a b=>(Nat.not_lt.mpr a b).elim)
theorem sort_ok(o:Ord lt)(h1:0<N):okT lt N (kas_sort N) fun p=>perm N p∧Srt lt true p N:=
 xh (count_ok o (show perm N (List.toArray (List.range N))from List.Perm.refl _) h1 fun m p hp a c=>by
  show okT lt N (if m+1<N then kas_bin (N-max (m+1) 1) p (max (m+1) 1)else .ret p) _
  rw [Nat.max_eq_left (Nat.le_add_left 1 m)]
  split
  ·exact bin_ok o _ p (m+1) hp (Nat.add_sub_cancel' a) c
  ·exact⟨hp,Nat.le_antisymm a (Nat.not_lt.mp ‹_›)▸c⟩)
end
theorem okT_wp{α:Type}{lt:Nat→Nat→Bool}{N:Nat}{cmp:Nat→Nat→(Bool→Shared→Prop)→Shared→Prop}{Inv:Shared→Prop}(hc:∀i j C s,i<N→j<N→Inv s→(∀s',Inv s'→C (lt i j) s')→cmp i j C s){Q:α→Prop}{R:α→Shared→Prop}(hR:∀a s,Q a→Inv s→R a s):
  ∀(t:KasT α) (s:Shared),okT lt N t Q→Inv s→t.kasWp cmp R s
 | .ret _,s,h,hi=>hR _ _ h hi
 | .ask i j k,s,h,hi=>hc i j _ s h.1 h.2.1 hi fun s' hi'=>okT_wp hc hR (k (lt i j)) s' h.2.2 hi'
structure JS(z:Z)(S:List Addr)(G:GH)(s:Shared):Prop where
 step:Step z ⟨G,z.ρ,z.st,s⟩
 own:∀b∈S,z.s.heap.get? b=none∧G b=none∧z.Out b
noncomputable def JX(z:Z)(S:List Addr)(s:Shared):Prop:=∃G,JS z S G s
noncomputable def y4{α:Type}(d:α)(l:List α)(p:Array Nat):List α:=p.toList.map fun i=>l.getD i d
section
variable {w:World}{z:Z}{s s':Shared}{S:List Addr}{G:GH}{A:Around}{E:Value→Shared→Prop}{N:Nat}{lt:Nat→Nat→Bool}{p:Array Nat}
theorem JS.poke(j:JS z S G s)(hk:∀b o,b∉S→s.heap.get? b=some o→s'.heap.get? b=some o)(ho:s'.os=s.os)(hg:s'.gens=s.gens):JS z S G s':=
 ⟨j.step.poke S hk j.own (j.step.gs.trans (.same ho hg)),j.own⟩
theorem runs_ok{κ:SortKind}{it:Array Keyed}(hN:it.size=N)(h2:2≤N)(h64:N<64)(o:Ord lt){J:Shared→Prop}(ask:∀i j s1 C,i<N→j<N→J s1→(∀s2,J s2→C (lt i j) s2)→kas_cmp pw w A κ it i j C s1)(j:J s){Q:Unit×SortSt→Shared→Prop}
  (h:∀st' p s',J s'→perm N p→Srt lt true p N→arrOf st'=p.map (kas_item it)→failedOf st'=none→Q ((),st') s'):wpAny (model pw w) A (sortRuns'.run (SortSt.mk' κ it #[] 7 none)) Q E s:=by
 have run:=kas_runs (κ:=κ) (it:=it) (E:=E) (Q:=fun u st' s'=>Q (u,st') s') h2 h64 (fun p' st' s' _ a2 a3 a4=>h st' p' s' a4.1 a4.2.1 a4.2.2 a2 a3) (okT_wp (Inv:=J) (R:=fun p s'=>J s'∧perm N p∧Srt lt true p N) (fun i j C s1 hi hj hJ k=>ask i j s1 C hi hj hJ k) (fun p s1 q hJ=>⟨hJ,q⟩) _ s (sort_ok o (Nat.lt_of_lt_of_le (by decide) h2)) j)
 unfold kas_st at run
 rw [←hN,kas_range]at run
 exact run
theorem item_of{ks vs:List Value}(hl:ks.length=vs.length)(i:Nat):kas_item (ks.toArray.zip vs.toArray) i=(ks.getD i .none,vs.getD i .none):=by
 unfold kas_item
 rw [Array.getD_eq_getD_getElem?,List.getD_eq_getElem?_getD,List.getD_eq_getElem?_getD,List.zip_toArray,List.getElem?_toArray]
 rcases Nat.lt_or_ge i vs.length with q|q
 ·have e1:=List.getElem?_eq_getElem q
  have e2:=List.getElem?_eq_getElem (l:=ks) (i:=i) (hl.symm▸q)
  rw [List.getElem?_zip_eq_some (z:=(_,_)).mpr ⟨e2,e1⟩,e1,e2];rfl
 ·rw [List.getElem?_eq_none q,List.getElem?_eq_none (Nat.le_trans (Nat.le_of_eq hl) q),List.getElem?_eq_none (Nat.le_trans (Nat.le_of_eq List.length_zip) (Nat.le_trans (Nat.min_le_right ..) q))];rfl
theorem arr_out{ks vs:List Value}(hl:ks.length=vs.length){st':SortSt}(h:arrOf st'=p.map (kas_item (ks.toArray.zip vs.toArray))):(arrOf st').map (·.2)=(y4 .none vs p).toArray:=by
 rw [h,Array.map_map,←Array.toList_inj,Array.toList_map]
 exact List.map_congr_left fun i _=>congrArg Prod.snd (item_of hl i)
theorem outG_len{α:Type}{d:α}{l:List α}(h:perm l.length p):(y4 d l p).length=l.length:=List.length_map .. |>.trans (Array.length_toList.trans h.size)
theorem range_out{α:Type}{d:α}(l:List α):y4 d l (List.range l.length).toArray=l:=by
 unfold y4
 refine List.ext_getElem (List.length_map .. |>.trans List.length_range) fun i h1 h2=> ?_
 rw [List.getElem_map,List.getElem_range,List.getD_eq_getElem?_getD,List.getElem?_eq_getElem h2];rfl
theorem xB{α:Type}{d:α}{l:List α}(h:perm l.length p):(y4 d l p).Perm l:=(h.map fun i=>l.getD i d).trans (List.Perm.of_eq (range_out (d:=d) l))
theorem sl{n:Nat}(h:n<64):n≤sizeLine:=Nat.le_trans (Nat.le_of_lt h) (sizeLine_eq▸(by decide))
theorem sl1{n:Nat}(h:n<64):n≤sizeLine+1:=by rw [sizeLine_eq];exact Nat.le_trans (Nat.le_of_lt h) (by decide)
theorem outG_sz{α:Type}{d:α}{l:List α}(h:perm l.length p)(h64:l.length<64):(y4 d l p).toArray.size≤sizeLine+1:=sl1 ((List.size_toArray (as:=y4 d l p)).symm▸(outG_len (d:=d) h).symm▸h64)
theorem lsort_ok{κ:SortKind}{vs:List Value}{a:Addr}{n:Nat}{P:PySem.Fin→Shared→Prop}(o:Ord lt)(hmem:a∈S)(j:JS z S G s)(ho:s.heap.get? a=some (seqObj "list" vs.toArray n))(h64:vs.length<64)
  (kind:2≤vs.length→∀s1 (Q:SortKind→Shared→Prop),JX z S s1→Q κ s1→wpAny (model pw w) A (keyKind' vs.toArray) Q E s1)
  (ask:∀i j s1 C,i<vs.length→j<vs.length→JX z S s1→(∃o,s1.heap.get? a=some o)→(∀s2,JX z S s2→s2.heap.get? a=s1.heap.get? a→C (lt i j) s2)→wpAny (model pw w) A (keyLt' κ (vs.getD i .none) (vs.getD j .none)) C (fun _ _=>False) s1)
  (h:∀p c s2,JX z S s2→perm vs.length p→Srt lt true p vs.length→s2.heap.get? a=some (seqObj "list" (y4 .none vs p).toArray c)→P (.done (.ret .none)) s2):
  wpAny (model pw w) A (Builtin.«list.sort» ⟨[.ref a],[]⟩) P E s:=by
 have s1:=Heap.SameBut.update s.heap a (Obj.mapSeq fun _=>(#[]:Array Value))
 obtain⟨e1,ho1⟩:∃e1,(s.heap.update a (Obj.mapSeq fun _=>(#[]:Array Value))).get? a=some (seqObj "list" #[] e1):=⟨_,get?_update_seq ho fun _=> #[]⟩
 have push:∀{h:Heap} {b o f},h.get? b=some o→(h.push f).get? b=some o:=fun e=>Heap.get?_push_of_some _ e
 have j3:JS z S G {s with heap:=((s.heap.update a (Obj.mapSeq fun _=>(#[]:Array Value))).push (seqObj "tuple" vs.toArray 0)).push (seqObj "list" #[] 0)}:=
  j.poke (fun b o hb e=>push (push ((s1.2 b (fun q=>hb (q▸hmem))).trans e))) rfl rfl
 rw [list_sort_plain]
 refine wpAny_bind (listItems_at ho rfl ?_)
 refine wpAny_bind (listUpdate_at ho rfl ?_ (sl (List.size_toArray .. ▸h64)) (Nat.zero_le _))
 refine wpAny_bind (seqEpoch_at ho1 rfl ?_)
 refine wpAny_bind (wpAny_newTuple ?_ (sl h64))
 refine wpAny_bind (wpAny_newList ?_ (Nat.zero_le _))
 refine wpAny_holding ?_
 show wpAny (model pw w) A _ P E {s with heap:=((s.heap.update a (Obj.mapSeq fun _=>(#[]:Array Value))).push (seqObj "tuple" vs.toArray 0)).push (seqObj "list" #[] 0)}
 dsimp only
 have fin:∀(s':Shared) (p:Array Nat),JX z S s'→s'.heap.get? a=some (seqObj "list" #[] e1)→perm vs.length p→Srt lt true p vs.length→∀t:Sem PySem.Fin,(∀P' E',P' (.done (.ret .none)) {s' with heap:=s'.heap.update a (Obj.mapSeq fun _=>(y4 .none vs p).toArray)}→wpAny (model pw w) A t P' E' {s' with heap:=s'.heap.update a (Obj.mapSeq fun _=>(y4 .none vs p).toArray)})→
   wpAny (model pw w) A (Builtin.List.listUpdate (.ref a) (fun _=>(y4 .none vs p).toArray)>>=fun _=>t) P E s':=by
  intro s' p ⟨G',j'⟩ hs' hp hu t ht
  have s2:=Heap.SameBut.update s'.heap a (Obj.mapSeq fun _=>(y4 .none vs p).toArray)
  have e3:=get?_update_seq hs' fun _=>(y4 .none vs p).toArray
  refine wpAny_bind (listUpdate_at hs' rfl ?_ ?_ ?_)
  rotate_left
  ·exact Nat.zero_le _
  ·exact outG_sz (d:= .none) hp h64
  exact ht _ _ (h p _ {s' with heap:=s'.heap.update a (Obj.mapSeq fun _=>(y4 .none vs p).toArray)} ⟨G',j'.poke (fun b o hb e=>(s2.2 b (fun q=>hb (q▸hmem))).trans e) rfl rfl⟩ hp hu e3)
 have ho3:(((s.heap.update a (Obj.mapSeq fun _=>(#[]:Array Value))).push (seqObj "tuple" vs.toArray 0)).push (seqObj "list" #[] 0)).get? a=some (seqObj "list" #[] e1):=push (push ho1)
 rcases Nat.lt_or_ge vs.length 2 with h2|h2
 ·rw [if_pos (c:=vs.toArray.size<2) h2,if_pos (c:=vs.toArray.size<2) h2]
  refine wpAny_bind (wpAny_pure ?_)
  rw [StateT.run_pure]
  refine wpAny_bind (wpAny_pure ?_)
  dsimp only
  refine wpAny_bind (seqEpoch_at ho3 rfl ?_)
  have e:(arrOf (SortSt.mk' general' (vs.toArray.zip vs.toArray) #[] 7 none)).map (·.2)=(y4 .none vs (List.range vs.length).toArray).toArray:=by
   rw [range_out]
   apply Array.toList_inj.mp
   show((vs.toArray.zip vs.toArray).map (·.2)).toList=vs
   rw [Array.toList_map,Array.toList_zip]
   exact List.map_snd_zip (Nat.le_refl _)
  rw [e]
  refine fin _ _ ⟨_,j3⟩ ho3 (List.Perm.refl _) (fun i j q1 q2=>Nat.lt_one_iff.mp (Nat.lt_of_lt_of_le q2 (Nat.le_of_lt_succ h2))▸Nat.lt_one_iff.mp (Nat.lt_of_le_of_lt q1 (Nat.lt_of_lt_of_le q2 (Nat.le_of_lt_succ h2)))▸o.rfl' _) _ fun P' E' q=> ?_
  rw [bne_self_eq_false]
  exact wpAny_pure q
 ·have n2:¬vs.toArray.size<2:=Nat.not_lt.mpr h2
  rw [if_neg n2,if_neg n2]
  refine wpAny_bind (kind h2 _ _ ⟨_,j3⟩ ?_)
  refine wpAny_bind (runs_ok (N:=vs.length) (lt:=lt) (J:=fun s1=>JX z S s1∧s1.heap.get? a=some (seqObj "list" #[] e1)) ((Array.size_zip ..).trans (Nat.min_self _)) h2 h64 o (fun i j s1 C hi hj hJ k=> ?_) ⟨⟨_,j3⟩,ho3⟩ fun st' p s' hJ hp hu ha' hf=> ?_)
  ·unfold kas_cmp
   rw [item_of rfl i,item_of rfl j]
   exact ask i j s1 C hi hj hJ.1 ⟨_,hJ.2⟩ fun s2 j2 hk=>k s2 ⟨j2,hk.trans hJ.2⟩
  ·dsimp only
   rw [arr_out rfl ha']
   refine wpAny_bind (seqEpoch_at hJ.2 rfl ?_)
   refine fin _ _ hJ.1 hJ.2 hp hu _ fun P' E' q=> ?_
   rw [hf,bne_self_eq_false]
   exact wpAny_pure q
end
theorem xj:∀{l:List SV},(∀x∈l,x.pure=true)→zt l=true
 | [],_=>rfl
 |x::l,h=>(Bool.and_eq_true ..).mpr ⟨h x (.head _),xj fun y m=>h y (.tail _ m)⟩
section
variable {w:World}{d:Nat}{z zb:Z}{A:Around}{E:Value→Shared→Prop}{lt:Nat→Nat→Bool}{p:Array Nat}{xs:List SV}{vs:List Value}{y:Y}{kw:List (Str×Value)}{it:Value}{x:SV}{S:Addr}
theorem perm_lt{i N:Nat}(hp:perm N p)(h:i∈p.toList):i<N:=List.mem_range.mp (hp.mem_iff.mp h)
theorem zN{α:Type}{d:α}{l:List α}{i:Nat}(h:i<l.length):l[i]? =some (l.getD i d):=
 have e:=List.getElem?_eq_getElem h
 e.trans (congrArg some ((List.getD_eq_getElem?_getD ..).trans (e▸rfl)).symm)
theorem VRels.perm(q:VRels y xs vs)(hp:perm xs.length p):VRels y (y4 .non xs p) (y4 .none vs p):=by
 have key:∀l:List Nat,(∀i∈l,i<xs.length)→VRels y (l.map fun i=>xs.getD i .non) (l.map fun i=>vs.getD i .none):=fun l=>by
  induction l with
  |nil=>exact fun _=>.nil
  |cons i l ih=>
   intro h
   exact .cons (q.get i _ (zN (h i (.head _)))) (ih fun j m=>h j (.tail _ m))
 exact key p.toList fun i m=>perm_lt hp m
theorem pure_out(h:zt xs=true)(hp:perm xs.length p):zt (y4 .non xs p)=true:=xj fun x m=>
 let⟨_,m,e⟩:=List.mem_map.mp m
 e▸xk h (zN (perm_lt hp m))
theorem xJ{Q:Value→Shared→Prop}(r:Rep z)(hv:VRels z.y xs vs)(hp:zt xs=true)(h64:vs.length<64)(hkw:∀a:Value,argsOk "list.sort" ⟨[a],kw⟩)
  (sort:∀(a:Addr) (s1:Shared) (P:PySem.Fin→Shared→Prop) E',JX z [a] s1→s1.heap.get? a=some (seqObj "list" vs.toArray 0)→(∀p c s2,JX z [a] s2→perm vs.length p→Srt lt true p vs.length→s2.heap.get? a=some (seqObj "list" (y4 .none vs p).toArray c)→P (.done (.ret .none)) s2)→
   wpAny (model pw w) A.in1 (Builtin.«list.sort» ⟨[.ref a],kw⟩) P E' s1)
  (h:∀v G s2 p,perm xs.length p→Srt lt true p xs.length→Step z ⟨G,z.ρ,z.st,s2⟩→VRel ⟨G,z.ρ,z.st.nx⟩ (.vlist (y4 .non xs p)) v→Q v s2):
  wpAny (model pw w) A (do let l←newList vs;let _←holding [l] (call (.builtin "list.sort") [l] kw);ret l) (fun fin s'=>∃v,fin= .done (.ret v)∧Q v s') E z.s:=by
 have hl:=hv.length
 refine wpAny_bind (wpAny_newList ?_ (sl h64))
 show wpAny (model pw w) A (holding [.ref z.new] (call (.builtin "list.sort") [.ref z.new] kw)>>=fun _=>ret (.ref z.new)) _ E {z.s with heap:=z.s.heap.push (seqObj "list" vs.toArray 0)}
 have j:JS z [z.new] z.G {z.s with heap:=z.s.heap.push (seqObj "list" vs.toArray 0)}:=⟨r.grow (s:={z.s with heap:=z.s.heap.push (seqObj "list" vs.toArray 0)}) (fun _ _ e=>Heap.get?_push_of_some _ e) .heap,fun b m=>List.mem_singleton.mp m▸⟨zh _,r.free.gn,r.free.out⟩⟩
 have ho:(z.s.heap.push (seqObj "list" vs.toArray 0)).get? z.new=some (seqObj "list" vs.toArray 0):=Heap.get?_push_size _ rfl
 refine wpAny_bind (wpAny_holding (wpAny_call_entry_kw slot_list_sort ⟨_,ho,rfl⟩ entry_list_sort (sort _ _ _ _ ⟨_,j⟩ ho fun p c s2 ⟨G2,j2⟩ hp' hu ho2=> ?_) (hkw _)))
 have f:=j2.own _ (List.mem_singleton.mpr rfl)
 rw [←hl]at hp' hu
 exact⟨_,rfl,wpAny_pure ⟨_,rfl,h _ _ s2 p hp' hu (j2.step.addG (a:=z.new) ⟨f.1,f.2.1,f.2.2⟩ ho2) (.vlist (vs:=(y4 .none vs p).toArray) (k:=c) (pure_out hp hp') (if_pos rfl) ((j2.step.addG (a:=z.new) ⟨f.1,f.2.1,f.2.2⟩ ho2).vals hv|>.perm hp'))⟩⟩
theorem ext_turn{R:Result→Shared→Prop}{k:Nat}{G:GH}{ρ:Nat→Addr}{s:Shared}{stb:St}{acc:List SV}{o:Option SV}(hA:AOk d A.in1)(ob:Ok w zb)(L:LInv w d zb x it k ⟨G,ρ,stb.push (.list acc),s⟩)(hx:zO x k (stb.push (.list acc))=some o)(hl:acc.length<64)
  (h0:o=none→∀G s,Step zb ⟨G,ρ,stb.push (.list acc),s⟩→R (.ok (.ret (.ref (ρ stb.nx)))) s)
  (h1:∀y G s,o=some y→LInv w d zb x it (k+1) ⟨G,ρ,stb.push (.list (acc++[y])),s⟩→codeAny (model pw w) A (.builtin "list.extend.loop" ⟨[.ref (ρ stb.nx),it,.ref (ρ stb.nx)],[]⟩) R s):
  codeAny (model pw w) A (.builtin "list.extend.loop" ⟨[.ref (ρ stb.nx),it,.ref (ρ stb.nx)],[]⟩) R s:=by
 refine codeAny_builtin F.entry_extend_loop ?_
 rw [Around.under_plainId F.plain_extend_loop _]
 refine wpAny_bind (m:=pyNext it) (L.turn hA (L.step.ok ob) hx (fun q G s T=>wpAny_pure (h0 q G s T)) fun y u G s q L' hv=> ?_)
 have r1:=L'.step.rep
 obtain⟨vs,c,ho,hr⟩:=r1.list_of y7
 have hsz:vs.size<64:=hr.size▸hl
 have e1:=get?_update_seq ho (·.push u)
 have T:=r1.turn (s:={s with heap:=s.heap.update (ρ stb.nx) (Obj.mapSeq (·.push u))}) y7 (fun b n=>Heap.get?_update_other _ _ n.symm) e1 (.list (xs:=acc++[y]) (by rw [Array.toList_push];exact hr.append (.cons hv .nil))) .heap
 rw [St.push_put]at T
 exact wpAny_bind (m:=updateSeq _ (·.push u)) (wpAny_updateSeq ho rfl (wpAny_pure ⟨plainId_quiet F.plain_extend_loop _,h1 y _ _ q (L'.go T)⟩) (sl hsz) (by rw [Array.size_push];exact Nat.succ_le_succ (sl hsz)))
theorem ext_loop{R:Result→Shared→Prop}{stb:St}{ys:List SV}{ρ:Nat→Addr}(hx:∀k st,zO x k st=some ys[k]?)(h64:ys.length<64)(hA:AOk d A.in1)(ob:Ok w zb)(hR:∀G s,Step zb ⟨G,ρ,stb.push (.list ys),s⟩→R (.ok (.ret (.ref (ρ stb.nx)))) s):
  ∀n k G s,n+k=ys.length→LInv w d zb x it k ⟨G,ρ,stb.push (.list (ys.take k)),s⟩→codeAny (model pw w) A (.builtin "list.extend.loop" ⟨[.ref (ρ stb.nx),it,.ref (ρ stb.nx)],[]⟩) R s
 |0,k,G,s,h,L=>by
  rw [Nat.zero_add]at h
  refine ext_turn hA ob L (hx k _) (Nat.lt_of_le_of_lt (List.length_take_le ..) (h▸h64)) (fun _ G s T=>hR G s (Eq.mp (by rw [h,List.take_length]) T)) fun y G s q=> ?_
  rw [List.getElem?_eq_none (Nat.le_of_eq h.symm)]at q
  cases q
 |n+1,k,G,s,h,L=>by
  have hk:k<ys.length:=h▸Nat.lt_add_of_pos_left (Nat.succ_pos n)
  refine ext_turn hA ob L (hx k _) (Nat.lt_of_le_of_lt (List.length_take_le ..) (Nat.lt_trans hk h64)) (fun q=> ?_) fun y G s q L'=> ?_
  ·rw [List.getElem?_eq_getElem hk]at q
   cases q
  ·refine ext_loop hx h64 hA ob hR n (k+1) G s ((Nat.succ_add_eq_add_succ n k).symm.trans h) ?_
   rw [List.take_succ,q];exact L'
theorem Rep.pushL(r:Rep z):∃ρ1,ρ1 z.st.nx=z.new∧(∀i,i<z.st.nx→ρ1 i=z.ρ i)∧Step z ⟨z.G,ρ1,z.st.push (.list []),{z.s with heap:=z.s.heap.push (seqObj "list" #[] 0)}⟩:=
 ⟨_,zQ,fun _ h=>xg h,r.pushO (o:=seqObj "list" #[] 0) (so:= .list []) rfl (.list (vs:= #[]) .nil)⟩
theorem collect_gen{ys:List SV}{a:Addr}{o:Obj}{Q:List Value→Shared→Prop}(ha:AOk (d+1) A)(ob:Ok w zb)(hp:zt ys=true)(hx:∀k st,zO x k st=some ys[k]?)(h64:ys.length<64)(L:LInv w d zb x (.ref a) 0 z)(e:z.s.heap.get? a=some o)(hc:o.cls= .type "generator")
  (h:∀vs G s,Step zb ⟨G,z.ρ,z.st,s⟩→VRels ⟨G,z.ρ,z.st.nx⟩ ys vs→Q vs s):wpAny (model pw w) A (collect (.ref a)) Q E z.s:=by
 have r:=L.step.rep
 unfold collect
 refine wpAny_bind (wpAny_runValue (codeAny_builtin F.entry_proto_collect ?_))
 rw [Around.under_plainId F.plain_proto_collect _]
 show wpAny _ A.in1 (newList []>>=fun l=>again (.builtin "list.__iadd__" ⟨[l,.ref a],[]⟩)) _ _ z.s
 refine wpAny_bind (wpAny_newObj_type ?_)
 refine wpAny_pure ⟨plainId_quiet F.plain_list_iadd _,codeAny_builtin F.entry_list_iadd ?_⟩
 rw [Around.under_plainId F.plain_list_iadd _]
 obtain⟨ρ1,hS,hl,S1⟩:=r.pushL
 have ho:(z.s.heap.push (seqObj "list" #[] 0)).get? z.new=some (seqObj "list" #[] 0):=Heap.get?_push_size _ rfl
 have hT:Shared.TypeIs {z.s with heap:=z.s.heap.push (seqObj "list" #[] 0)} (.ref a) "generator":=⟨o,Heap.get?_push_of_some _ e,hc⟩
 have ne:z.new≠a:=fun q=>zu (zh z.s.heap) ((show z.s.heap.objs.size=a from q).symm▸e)
 show wpAny _ A.in1 (Builtin.List.listExtendWith (.ref z.new) (.ref a) (.ref z.new)) _ _ {z.s with heap:=z.s.heap.push (seqObj "list" #[] 0)}
 unfold Builtin.List.listExtendWith
 refine wpAny_bind (wpAny_typeOf hT (zG ?_ ?_))
 ·show((BEq.beq z.new a||_)||_)=false
  rw [beq_false_of_ne ne];rfl
 refine wpAny_bind (m:=pyIter (.ref a)) ((L.go S1).self ?_)
 refine wpAny_bind (wpAny_holding (wpAny_bind (wpAny_specialOf hT F.gen_no_len (wpAny_bind (wpAny_specialOf hT F.gen_no_hint (wpAny_pure ?_))))))
 have e1:=get?_update_seq ho (·.push .none)
 have e2:=get?_update_seq e1 (·.pop)
 refine wpAny_bind (m:=rule _) (wpAny_rule (wpAny_bind (m:=Builtin.List.listTouch _) ?_))
 refine wpAny_bind (m:=updateSeq _ _) (wpAny_updateSeq ho rfl (wpAny_updateSeq e1 rfl (wpAny_pure ⟨plainId_quiet F.plain_extend_loop _,?_⟩)))
 have T:=S1.rep.turn (s:={z.s with heap:=((z.s.heap.push (seqObj "list" #[] 0)).update z.new (Obj.mapSeq (·.push .none))).update z.new (Obj.mapSeq (·.pop))}) y7 (fun b n=>(Heap.get?_update_other _ _ (fun q=>n (q.symm.trans hS.symm))).trans (Heap.get?_update_other _ _ (fun q=>n (q.symm.trans hS.symm)))) ((congrArg _ hS).trans e2) (.list (vs:= #[]) .nil) .heap
 rw [St.push_put]at T
 refine Eq.mp (congrArg (fun q=>codeAny _ A (.builtin "list.extend.loop" ⟨[.ref q,.ref a,.ref q],[]⟩) _ _) hS) (ext_loop (ρ:=ρ1) (stb:=z.st) hx h64 (ha.of (A':=A.in1) (x:=0) (y:=1) rfl rfl rfl (by decide) (by decide)) ob (fun G s S=> ?_) ys.length 0 _ _ rfl (L.go (S1.trans T)))
 obtain⟨vs,c,h1,h2⟩:=S.rep.list_of y7
 refine wpAny_bind (m:=load _) (wpAny_load h1 (wpAny_pure (h vs.toList G s (Step.same2 r L.step S hl fun i so e=> ?_) (h2.move hp))))
 obtain⟨_,v⟩:=r.own i so e
 exact(zn ..).trans ((if_neg (Nat.ne_of_lt v.lt)).trans e)
end
noncomputable def txt:Value→List Nat
 | .str x _=>x.cps.toList
 |_=> []
noncomputable def xL:Value→Prop
 | .str _ _=>True
 |_=>False
theorem isTxt_inv{v:Value}(h:xL v):∃x t,v= .str x t:=by
 cases v<;>first|exact⟨_,_,rfl⟩|exact h.elim
theorem ord_txt(key:Nat→List Nat):Ord fun i j=>decide (key i<key j)where
 asym:=fun i j h=>decide_eq_false (List.lt_asymm (of_decide_eq_true h))
 tr:=fun i j k h1 h2=>decide_eq_false (List.not_lt.mpr (List.le_trans (List.not_lt.mp (of_decide_eq_false h1)) (List.not_lt.mp (of_decide_eq_false h2))))
section
variable {w:World}{z z':Z}{s s':Shared}{S:List Addr}{G:GH}{A:Around}{E:Value→Shared→Prop}{b:Addr}
theorem JS.go(j:JS z S G s)(T:Step ⟨G,z.ρ,z.st,s⟩ z')(e:z'.st=z.st)(lv:∀b∈S,∃o,s.heap.get? b=some o):JS z S z'.G z'.s∧∀b∈S,z'.s.heap.get? b=s.heap.get? b:=by
 have k:∀b∈S,z'.s.heap.get? b=s.heap.get? b∧z'.G b=none:=fun b m=>
  let⟨o,h⟩:=lv b m
  let⟨_,h2,h3⟩:=j.own b m
  let⟨p,_,q⟩:=T.out b o h h3
  ⟨Eq.trans p h.symm,q.trans h2⟩
 exact⟨⟨j.step.trans (Step.same j.step.rep T fun i so h=>e▸h),fun b m=>⟨(j.own b m).1,(k b m).2,(j.own b m).2.2⟩⟩,fun b m=>(k b m).1⟩
theorem JS.new(j:JS z S G s)(h:s.heap.get? b=none):JS z (b::S) G s:=⟨j.step,List.forall_mem_cons.mpr ⟨⟨j.step.dead h,j.step.rep.aside h⟩,j.own⟩⟩
theorem JS.less{S':List Addr}(j:JS z S G s)(h:∀b∈S',b∈S):JS z S' G s:=⟨j.step,fun b m=>j.own b (h b m)⟩
theorem txt_kind{vs:List Value}{s:Shared}{Q:SortKind→Shared→Prop}(h2:2≤vs.length)(hT:∀v∈vs,xL v)(h:Q oneType' s):wpAny (model pw w) A (keyKind' vs.toArray) Q E s:=
 kas_kind (T:= .type "str") h2 (fun v hv=>by
  obtain⟨x,t,rfl⟩:=isTxt_inv (hT v hv)
  exact Looks.of_pure rfl) (by decide) (by decide) h
theorem txt_lt{u v:Value}{C:Bool→Shared→Prop}{s:Shared}(hu:xL u)(hv:xL v)(h:C (decide (txt u<txt v)) s):wpAny (model pw w) A (keyLt' oneType' u v) C E s:=by
 obtain⟨x,t,rfl⟩:=isTxt_inv hu
 obtain⟨y,t',rfl⟩:=isTxt_inv hv
 exact kas_lt_str h
theorem lsortK_end{vs ks:List Value}{a k:Addr}{e0 e1:Nat}{st':SortSt}{p:Array Nat}{P:PySem.Fin→Shared→Prop}(hka:k≠a)(h64:vs.length<64)(hl:ks.length=vs.length)(hp:perm vs.length p)(hout:(arrOf st').map (·.2)=(y4 .none vs p).toArray)(hf:failedOf st'=none)
  (j:JX z [k,a] s) (ha:s.heap.get? a=some (seqObj "list" #[] e1)) (hk:s.heap.get? k=some (seqObj "list" ks.toArray e0))
  (h:∀p c s2,JX z [a] s2→perm vs.length p→s2.heap.get? a=some (seqObj "list" (y4 .none vs p).toArray c)→P (.done (.ret .none)) s2):wpAny (model pw w) A (ksk_tail a false e1 (.ref k) st') P E s:=by
 obtain⟨G',j⟩:=j
 have sk:=Heap.SameBut.update s.heap k (Obj.mapSeq fun _=>(#[]:Array Value))
 have ha2:(s.heap.update k (Obj.mapSeq fun _=>(#[]:Array Value))).get? a=some (seqObj "list" #[] e1):=(sk.2 a hka.symm).trans ha
 have sa:=Heap.SameBut.update (s.heap.update k (Obj.mapSeq fun _=>(#[]:Array Value))) a (Obj.mapSeq fun _=>(y4 .none vs p).toArray)
 have e3:=get?_update_seq ha2 fun _=>(y4 .none vs p).toArray
 unfold ksk_tail
 refine wpAny_bind (listUpdate_at hk rfl ?_ (sl ((List.size_toArray ..).symm▸hl.symm▸h64)) (Nat.zero_le _))
 refine wpAny_bind (wpAny_letGo (wpAny_bind (seqEpoch_at ha2 rfl ?_)))
 dsimp only
 rw [hout,hf,bne_self_eq_false]
 refine wpAny_bind (listUpdate_at ha2 rfl ?_ ?_ ?_)
 rotate_left
 ·exact Nat.zero_le _
 ·exact outG_sz (d:= .none) hp h64
 exact wpAny_pure (h p _ _ ⟨_,JS.less (S:=[k,a]) (j.poke (s':={s with heap:=(s.heap.update k (Obj.mapSeq fun _=>(#[]:Array Value))).update a (Obj.mapSeq fun _=>(y4 .none vs p).toArray)}) (fun b o hb e=>(sa.2 b fun q=>hb (q▸ .tail _ (.head _))).trans ((sk.2 b fun q=>hb (q▸ .head _)).trans e)) rfl rfl) fun b m=>.tail _ m⟩ hp e3)
theorem lsortK_mid{vs ks:List Value}{a k:Addr}{e0 e1:Nat}{P:PySem.Fin→Shared→Prop}(hka:k≠a)(h64:vs.length<64)(hl:ks.length=vs.length)(hT:∀v∈ks,xL v)
  (j:JX z [k,a] s) (ha:s.heap.get? a=some (seqObj "list" #[] e1)) (hk:s.heap.get? k=some (seqObj "list" ks.toArray e0))
  (h:∀p c s2,JX z [a] s2→perm vs.length p→s2.heap.get? a=some (seqObj "list" (y4 .none vs p).toArray c)→P (.done (.ret .none)) s2):wpAny (model pw w) A (ksk_end a false vs.toArray e1 (.ref k) ks.toArray) P E s:=by
 unfold ksk_end
 rcases Nat.lt_or_ge vs.length 2 with h2|h2
 ·refine zG rfl ?_
  rw [if_pos (c:=vs.toArray.size<2) h2,if_pos (c:=vs.toArray.size<2) h2]
  refine wpAny_bind (wpAny_pure ?_)
  show wpAny (model pw w) A (StateT.run (pure ()) _>>=_) P E s
  rw [StateT.run_pure]
  refine wpAny_bind (wpAny_pure (lsortK_end (p:=(List.range vs.length).toArray) hka h64 hl (List.Perm.refl _) ?_ rfl j ha hk h))
  rw [range_out]
  apply Array.toList_inj.mp
  show((ks.toArray.zip vs.toArray).map (·.2)).toList=vs
  rw [Array.toList_map,Array.toList_zip]
  exact List.map_snd_zip (Nat.le_of_eq hl.symm)
 ·refine zG rfl ?_
  have n2:¬vs.toArray.size<2:=Nat.not_lt.mpr h2
  rw [if_neg n2,if_neg n2]
  have htg:∀i,i<vs.length→xL (ks.getD i .none):=fun i hi=>hT _ (List.mem_of_getElem? (zN (hl.symm▸hi)))
  refine wpAny_bind (txt_kind (hl.symm▸h2) hT ?_)
  refine wpAny_bind (runs_ok (N:=vs.length) (J:=fun s1=>JX z [k,a] s1∧s1.heap.get? a=some (seqObj "list" #[] e1)∧s1.heap.get? k=some (seqObj "list" ks.toArray e0)) ((Array.size_zip ..).trans ((congrArg (min · _) hl).trans (Nat.min_self _))) h2 h64 (ord_txt fun i=>txt (ks.getD i .none)) (fun i j s1 C hi hj hJ q=> ?_) ⟨j,ha,hk⟩ fun st' p s2 hJ hp _ harr hf=> ?_)
  ·unfold kas_cmp
   rw [item_of hl i,item_of hl j]
   exact txt_lt (htg i hi) (htg j hj) (q s1 hJ)
  ·exact lsortK_end hka h64 hl hp (arr_out hl harr) hf hJ.1 hJ.2.1 hJ.2.2 h
structure KeyI(z:Z)(k a:Addr)(e1 i:Nat)(s:Shared)(ks:Array Value)(e:Nat):Prop where
 j:JX z [k,a] s
 ha:s.heap.get? a=some (seqObj "list" #[] e1)
 hk:s.heap.get? k=some (seqObj "list" ks e)
 sz:ks.size=i
 tx:∀x∈ks.toList,xL x
theorem key_turn{a k:Addr}{e1 i e:Nat}{ks:Array Value}{u:Value}{Q:Unit→Shared→Prop}(hka:k≠a)(hi:i<64)(I:KeyI z k a e1 i s ks e)(j:JX z [k,a] s')(same:∀b∈[k,a],s'.heap.get? b=s.heap.get? b)(hu:xL u)(h:∀s2 e',KeyI z k a e1 (i+1) s2 (ks.push u) e'→Q () s2):
  wpAny (model pw w) A (Builtin.List.listUpdate (.ref k) (·.push u)) Q E s':=by
 have hk:=(same k (.head _)).trans I.hk
 have s3:=Heap.SameBut.update s'.heap k (Obj.mapSeq (·.push u))
 obtain⟨G,j⟩:=j
 refine listUpdate_at hk rfl (h _ _ ⟨⟨G,j.poke (s':={s' with heap:=s'.heap.update k (Obj.mapSeq (·.push u))}) (fun b o hb e=>(s3.2 b fun q=>hb (q▸ .head _)).trans e) rfl rfl⟩,(s3.2 a hka.symm).trans ((same a (.tail _ (.head _))).trans I.ha),get?_update_seq hk (·.push u),(Array.size_push ..).trans (congrArg (· +1) I.sz),fun x hx=> ?_⟩) (I.sz▸sl hi) (by rw [Array.size_push,I.sz];exact Nat.succ_le_succ (sl hi))
 rw [Array.toList_push]at hx
 exact(List.mem_append.mp hx).elim (I.tx x) fun q=>List.mem_singleton.mp q▸hu
theorem lsortK_ok{vs:List Value}{a q:Addr}{n:Nat}{P:PySem.Fin→Shared→Prop}(j:JX z [a] s)(ho:s.heap.get? a=some (seqObj "list" vs.toArray n))(h64:vs.length<64)
  (turn:∀k v s1 (E':Value→Shared→Prop) (Q:Value→Shared→Prop),v∈vs→JX z [k,a] s1→(∀b∈[k,a],∃o,s1.heap.get? b=some o)→(∀u s2,xL u→JX z [k,a] s2→(∀b∈[k,a],s2.heap.get? b=s1.heap.get? b)→Q u s2)→wpAny (model pw w) A (call (.ref q) [v]) Q E' s1)
  (h:∀p c s2,JX z [a] s2→perm vs.length p→s2.heap.get? a=some (seqObj "list" (y4 .none vs p).toArray c)→P (.done (.ret .none)) s2):
  wpAny (model pw w) A (Builtin.«list.sort» ⟨[.ref a],[(Str.ofString "key",.ref q)]⟩) P E s:=by
 obtain⟨G,j⟩:=j
 have s1:=Heap.SameBut.update s.heap a (Obj.mapSeq fun _=>(#[]:Array Value))
 obtain⟨e1,ho1⟩:∃e1,(s.heap.update a (Obj.mapSeq fun _=>(#[]:Array Value))).get? a=some (seqObj "list" #[] e1):=⟨_,get?_update_seq ho fun _=> #[]⟩
 have push:∀{h:Heap} {b o f},h.get? b=some o→(h.push f).get? b=some o:=fun e=>Heap.get?_push_of_some _ e
 rw [ksk_t1]
 unfold ksk_tree
 refine wpAny_bind (listItems_at ho rfl ?_)
 refine wpAny_bind (listUpdate_at ho rfl ?_ (sl h64) (Nat.zero_le _))
 refine wpAny_bind (seqEpoch_at ho1 rfl ?_)
 refine wpAny_bind (wpAny_newTuple ?_ (sl h64))
 refine wpAny_bind (wpAny_newList ?_ (Nat.zero_le _))
 refine wpAny_holding ?_
 have hkn:=zh ((s.heap.update a (Obj.mapSeq fun _=>(#[]:Array Value))).push (seqObj "tuple" vs.toArray 0))
 have hk3:(((s.heap.update a (Obj.mapSeq fun _=>(#[]:Array Value))).push (seqObj "tuple" vs.toArray 0)).push (seqObj "list" #[] 0)).get? _=some (seqObj "list" #[] 0):=Heap.get?_push_size _ rfl
 generalize hkS:((s.heap.update a (Obj.mapSeq fun _=>(#[]:Array Value))).push (seqObj "tuple" vs.toArray 0)).objs.size=k at hkn hk3
 show wpAny (model pw w) A (ksk_rest a (.ref q) false vs.toArray e1 (.ref k)) P E {s with heap:=((s.heap.update a (Obj.mapSeq fun _=>(#[]:Array Value))).push (seqObj "tuple" vs.toArray 0)).push (seqObj "list" #[] 0)}
 have j2:JS z [a] G {s with heap:=(s.heap.update a (Obj.mapSeq fun _=>(#[]:Array Value))).push (seqObj "tuple" vs.toArray 0)}:=
  j.poke (fun b o hb e=>push ((s1.2 b (fun q=>hb (q▸ .head _))).trans e)) rfl rfl
 have j3:JS z [k,a] G {s with heap:=((s.heap.update a (Obj.mapSeq fun _=>(#[]:Array Value))).push (seqObj "tuple" vs.toArray 0)).push (seqObj "list" #[] 0)}:=(j2.new hkn).poke (fun b o hb e=>push e) rfl rfl
 have hka:k≠a:=fun q=>zu hkn ((congrArg _ q).trans (push ho1))
 unfold ksk_rest
 refine wpAny_bind (wpAny_rule ?_)
 rw [List.forIn_toArray]
 refine wpAny_bind (ksk_fold (fun i s'=>∃ks e,KeyI z k a e1 i s' ks e) vs 0 _ ⟨_,_,⟨_,j3⟩,push (push ho1),hk3,rfl,fun x hx=>nomatch hx⟩ (fun i x s' hx ⟨ks,e,I⟩=> ?_) fun s' ⟨ks,e,I⟩=> ?_)
 ·refine wpAny_bind (wpAny_attempt (turn k x s' _ _ (List.mem_of_getElem? hx) I.j (List.forall_mem_cons.mpr ⟨⟨_,I.hk⟩,List.forall_mem_cons.mpr ⟨⟨_,I.ha⟩,fun _ q=>nomatch q⟩⟩) fun u s2 hu j2 same=> ?_))
  exact wpAny_bind (key_turn hka ((Nat.zero_add i).symm▸Nat.lt_trans (List.getElem?_eq_some_iff.mp hx).1 h64) I j2 same hu fun s3 e' I'=>wpAny_pure ⟨rfl,_,e',I'⟩)
 ·obtain⟨ks,rfl⟩:∃l:List Value,ks=l.toArray:=⟨ks.toList,rfl⟩
  exact wpAny_bind (listItems_at I.hk rfl (lsortK_mid hka h64 (I.sz.trans (Nat.zero_add _)) I.tx I.j I.ha I.hk h))
end
section
variable {w:World}{d:Nat}{z zb:Z}{A:Around}{E:Value→Shared→Prop}{lt:Nat→Nat→Bool}{ys us:List SV}{K:KV}{env:Env}{x:SV}{it:Value}{fr:FrS}
theorem sorted_gen{a:Addr}{o:Obj}{kw:List (Str×Value)}(hkw1:argsOk "sorted" ⟨[.ref a],kw⟩)(hkw:∀a:Value,argsOk "list.sort" ⟨[a],kw⟩)(ha:AOk (d+2) A)(ob:Ok w zb)(hp:zt ys=true)(hx:∀k st,zO x k st=some ys[k]?)(h64:ys.length<64)(L:LInv w d zb x (.ref a) 0 z)(e:z.s.heap.get? a=some o)(hc:o.cls= .type "generator")
  (sort:∀(z1:Z) (vs:List Value) (b:Addr) (s1:Shared) (P:PySem.Fin→Shared→Prop) E',Ok w z1→z1.st=z.st→VRels z1.y ys vs→JX z1 [b] s1→s1.heap.get? b=some (seqObj "list" vs.toArray 0)→(∀p c s2,JX z1 [b] s2→perm vs.length p→Srt lt true p vs.length→s2.heap.get? b=some (seqObj "list" (y4 .none vs p).toArray c)→P (.done (.ret .none)) s2)→
   wpAny (model pw w) A.in1.in1 (Builtin.«list.sort» ⟨[.ref b],kw⟩) P E' s1)
  (k:∀p,perm ys.length p→Srt lt true p ys.length→K (.vlist (y4 .non ys p)) z.st):wpAny (model pw w) A (call (.builtin "sorted") [.ref a] kw) (Post VRel K zb) E z.s:=by
 refine call_function_entry_kw kind_sorted plain_sorted entry_sorted hkw1 ?_
 unfold Builtin.«sorted»
 refine wpAny_bind (m:=checkCount "sorted" 1 1 _) (wpAny_pure ?_)
 refine wpAny_bind (collect_gen (ha.of (A':=A.in1) (x:=0) (y:=1) rfl rfl rfl (by decide) (by decide)) ob hp hx h64 L e hc fun vs G s S vals=> ?_)
 exact xJ (z:=⟨G,z.ρ,z.st,s⟩) (lt:=lt) S.rep vals hp (vals.length▸h64) hkw (fun b s1 P E' j ho hP=>sort _ vs b s1 P E' (S.ok ob) rfl vals j ho hP) fun v G2 s2 p h1 h2 T q=>.mk (S.trans T) q (k p h1 h2)
noncomputable def isStr(x:SV):Bool:=match x with
 | .str _=>true
 |_=>false
theorem isStr_ok{y:Y}{v:Value}(h:isStr x=true)(q:VRel y x v):xL v:=by
 induction x using SV.casesOn with
 |str s=>obtain⟨_,rfl⟩:=q.inv;exact trivial
 |_=>exact Bool.noConfusion h
theorem txtL{y:Y}{vs:List Value}(h:∀x∈ys,isStr x=true)(q:VRels y ys vs):∀v∈vs,xL v:=fun v m=>by
 obtain⟨i,e⟩:=List.mem_iff_getElem?.mp m
 have hi:i<ys.length:=q.length.symm▸(List.getElem?_eq_some_iff.mp e).1
 have:=isStr_ok (h _ (List.mem_of_getElem? (zN (d:= .non) hi))) (q.get i _ (zN hi))
 rw [List.getD_eq_getElem?_getD,e]at this
 exact this
theorem sorted_txt{a:Addr}{o:Obj}(ha:AOk (d+2) A)(ob:Ok w zb)(hp:zt ys=true)(hs:∀y∈ys,isStr y=true)(hx:∀k st,zO x k st=some ys[k]?)(h64:ys.length<64)(L:LInv w d zb x (.ref a) 0 z)(e:z.s.heap.get? a=some o)(hc:o.cls= .type "generator")
  (k:∀zs,zs.Perm ys→K (.vlist zs) z.st):wpAny (model pw w) A (call (.builtin "sorted") [.ref a] []) (Post VRel K zb) E z.s:=by
 refine sorted_gen (lt:=fun _ _=>false) (args_sorted1 _) args_list_sort ha ob hp hx h64 L e hc (fun z1 vs b s1 P E' ok hz hv ⟨G,j⟩ ho hP=> ?_) fun p h1 _=>k _ (xB h1)
 have hT:=txtL hs hv
 have ht:∀i,i<vs.length→xL (vs.getD i .none):=fun i hi=>hT _ (List.mem_of_getElem? (zN hi))
 exact lsort_ok (κ:=oneType') (ord_txt fun i=>txt (vs.getD i .none)) (.head _) j ho (hv.length▸h64) (fun h2 s1 Q _ hQ=>txt_kind h2 hT hQ) (fun i j s1 C hi hj hJ _ q=>txt_lt (ht i hi) (ht j hj) (q s1 hJ rfl)) fun p c s2 j2 h1 _ ho2=>hP p c s2 j2 h1 (fun _ _ _ _=>rfl) ho2
theorem sorted_key{a q:Addr}{o:Obj}(ha:AOk (d+2) A)(ob:Ok w zb)(hp:zt ys=true)(hx:∀k st,zO x k st=some ys[k]?)(h64:ys.length<64)(L:LInv w d zb x (.ref a) 0 z)(e:z.s.heap.get? a=some o)(hc:o.cls= .type "generator")
  (key:∀y∈ys,∀z1 v,z1.st=z.st→VRel z1.y y v→W w d VRel (fun x st=>isStr x=true∧st=z.st) z1 (call (.ref q) [v]))
  (k:∀zs,zs.Perm ys→K (.vlist zs) z.st):wpAny (model pw w) A (call (.builtin "sorted") [.ref a] [("key",.ref q)]) (Post VRel K zb) E z.s:=by
 refine sorted_gen (lt:=fun _ _=>false) (ksk_s1 _ _) (fun _=>ksk_l1 _ _) ha ob hp hx h64 L e hc (fun z1 vs b s1 P E' ok hz hv j ho hP=> ?_) fun p h1 _=>k _ (xB h1)
 refine lsortK_ok j ho (hv.length▸h64) (fun c v s2 E2 Q hm ⟨G2,j2⟩ lv kQ=> ?_) fun p c s2 j2 h1 ho2=>hP p c s2 j2 h1 (fun _ _ _ _=>rfl) ho2
 obtain⟨i,e⟩:=List.mem_iff_getElem?.mp hm
 have hi:i<ys.length:=hv.length.symm▸(List.getElem?_eq_some_iff.mp e).1
 have qv:=hv.get i _ (zN (d:= .non) hi)
 obtain rfl:vs.getD i .none=v:=(List.getD_eq_getElem?_getD ..).trans (e▸rfl)
 refine wm (key _ (List.mem_of_getElem? (zN (d:= .non) hi)) ⟨G2,z1.ρ,z1.st,s2⟩ _ hz (j2.step.val qv) A.in1.in1 E2 ((ha.of (A':=A.in1.in1) (x:=0) (y:=2) rfl rfl rfl (by decide) (by decide)).mono (Nat.le_succ _)) (j2.step.ok ok)) fun u s3 p=> ?_
 cases p with
 | @mk z3 x3 _ T qx k3=>
  obtain⟨j3,same⟩:=j2.go T (k3.2.trans hz.symm) lv
  exact kQ u z3.s (isStr_ok k3.1 qx) ⟨_,j3⟩ same
end
noncomputable def itxt(u:Int):Str:=Str.ofString (toString u)
theorem itxt_len{u:Int}(h:u.natAbs≤50):(itxt u).length≤100:=
 Int.ofNat_le.mp (Int.le_trans (len_str_of_int u) (Int.le_trans (Int.add_le_add_right (Int.ofNat_le.mpr h) 2) (by decide)))
noncomputable def strT(x:SV)(st:St):Tr:=match x with
 | .num _ u=>some fun K=>u.natAbs≤50∧K (.str (itxt u)) st
 |_=>none
noncomputable def txt1(x:SV):Prop:=∃s:Str,x= .str s∧s.length≤100
noncomputable def txts(zs:List SV):Prop:=zs.length≤64∧∀z∈zs,txt1 z
noncomputable def joinT(x y:SV)(st:St):Tr:=match x with
 | .str x=>(match y with
  | .vlist zs=>some fun K=>(x.length≤64∧txts zs)∧∀z:Str,z.length≤100000→K (.str z) st
  |_=>none)
 |_=>none
noncomputable def methJ(x:SV)(n:Str)(_:St):Option (SV×List SV):=match x with
 | .str _=>zj (n=="join") (some (.top (.builtin "str.join"),[x]))
 |_=>none
section
variable {w:World}{d:Nat}
theorem strT_ok:BTOk w d (.type "str") (b1 strT):=yx fun x t K z v e k q A E ha ok=>by
 induction x using SV.casesOn with
 |num s u=>
  cases e
  obtain⟨t,rfl⟩:=q.inv
  exact P.str_of_int (Nat.lt_of_le_of_lt (Nat.le_trans (Nat.log2_le_self _) k.1) (by decide)) (ok.rep.endT .str k.2)
 |_=>exact(zu rfl e).elim
theorem txts_are{y:Y}:∀{zs:List SV} {vs:List Value},VRels y zs vs→(∀z∈zs,txt1 z)→∃ys,StrsAre vs ys∧ys.length=zs.length∧∀y∈ys,y.length≤100
 | [],_,q,_=>q.nil_inv▸⟨[],.nil,rfl,fun _ h=>nomatch h⟩
 |z::zs,_,q,h=>by
  obtain⟨v,vs,rfl,a,q⟩:=q.cons_inv
  obtain⟨ys,h1,h2,h3⟩:=txts_are q fun z m=>h z (.tail _ m)
  obtain⟨s,rfl,hs⟩:=h z (.head _)
  obtain⟨t,rfl⟩:=a.inv
  exact⟨s::ys,.cons _ _ h1,congrArg (· +1) h2,List.forall_mem_cons.mpr ⟨hs,h3⟩⟩
theorem join_len{x:Str}{ys:List Str}(h:ys.length≤64)(hx:x.length≤64)(h3:∀y∈ys,y.length≤100):(ys.map (·.length)).sum+ys.length*x.length≤100000∧(Txt.join x ys).length≤100000:=by
 have h5:=StrLaws.sumLen_le ys h3
 have a:(ys.map (·.length)).sum+ys.length*x.length≤100000:=Nat.le_trans (Nat.add_le_add (Nat.le_trans h5 (Nat.mul_le_mul_right 100 h)) (Nat.mul_le_mul h hx)) (by decide)
 refine⟨a,?_⟩
 rw [show Txt.join x ys=Str.join x ys from StrLaws.glued_eq_join _ _]
 cases ys with
 |nil=>exact Nat.zero_le _
 |cons y ys=>
  rw [len_join_cons]
  exact Nat.le_trans (Nat.add_le_add_left (Nat.mul_le_mul_right _ (Nat.le_succ _)) _) a
theorem joinT_ok:BTOk w d (.builtin "str.join") (b2 joinT):=b2_ok fun x y t K z v u e k q1 q2 A E ha ok=>by
 induction x using SV.casesOn with
 |str x=>
  induction y using SV.casesOn with
  |vlist zs=>
   cases e
   obtain⟨⟨hx,h64,hz⟩,k⟩:=k
   obtain⟨t,rfl⟩:=q1.inv
   rcases q2.inv with⟨_,⟨g,hv⟩⟩
   obtain⟨ys,h1,h2,h3⟩:=txts_are hv hz
   obtain⟨a1,a2⟩:=join_len (x:=x) (h2▸h64) hx h3
   exact join_list ⟨_,ok.rep.sub _ _ g,rfl,_,rfl⟩ h1 (Nat.le_trans a1 (by decide)) fun t' kt=>ok.rep.endT .str (k _ a2)
  |_=>exact(zu rfl e).elim
 |_=>exact(zu rfl e).elim
theorem methJ_ok{x:SV}{n:Str}{f:SV}{xs:List SV}{z:Z}{v:Value}{pl:Sem Bool}{A:Around}{E:Value→Shared→Prop}{Q:Value×List Value→Shared→Prop}(h:methJ x n z.st=some (f,xs))(ok:Ok w z)(q:VRel z.y x v)(hQ:∀fv vs,VRel z.y f fv→VRels z.y xs vs→Q (fv,vs) z.s):wpAny (model pw w) A (getMethod v n pl) Q E z.s:=by
 induction x using SV.casesOn with
 |str s=>
  obtain⟨e2,h⟩:=zv h
  cases h
  obtain rfl:=eq_of_beq e2
  have hQ:=hQ _ _ .top (.cons q .nil)
  obtain⟨t,rfl⟩:=q.inv
  exact getMethod_builtin (typeIs_str _ _ _) F.plainAttrs_str F.slot_str_join F.type_str_join (fun b e=>nomatch e) hQ
 |_=>exact(zu rfl h).elim
noncomputable def P5(w:World):Prims:={P4 w with
 call:=zp (onB true "str" (b1 strT))<|zp (onB false "str.join" (b2 joinT))<|zp (onA 30 (candH w)) (P4 w).call
 meth:=fun x n st=>orE (methJ x n st) ((P4 w).meth x n st)}
theorem P5_ok(w:World)(d:Nat):Sound w (P5 w) (d+4):={P4_ok w (d+1)with
 call:=CallOk.or (BTOk.on (ty:=true) strT_ok)<|CallOk.or (BTOk.on (ty:=false) joinT_ok)<|CallOk.or (BTOk.at candH_ok) (P4_ok w (d+1)).call
 meth:=fun x n f xs z v pl A E Q h ok q hQ=>(yi h).elim (fun h=>methJ_ok h ok q hQ) fun h=>(P4_ok w (d+1)).meth x n f xs z v pl A E Q h ok q hQ}
end
noncomputable def asgE(s:Stmt):Expr:=match s with
 | .Assign _ e _=>e
 | .Return e _=>e.getD e00
 |_=>e00
noncomputable def thenB(s:Stmt):List Stmt:=match s with
 | .If _ b _ _=>b
 |_=> []
noncomputable def ssG:GCall:=gcOf (asgE (sAt (thenB (sAt (tp 4).2.1 0)) 0))
noncomputable def ssFr:FrS:=⟨4,[("cand_names",5)],(tp 4).2.2,.ref 44⟩
noncomputable def ssT(w:World):SpT:=fun e fr st K=>(e=ssG.exp∧fr=ssFr)∧zg (y6 ssFr st ssG.ge.itn) fun x=>wv w x fun ns=>(ns.length≤8∧∀p∈ns,p.2.natAbs≤50)∧∀zs,txts zs→K (.vlist zs) st
noncomputable abbrev gxF(w:World)(P:Prims)(g:GCall)(u:SV)(code:Value)(l:List (Str×SV))(K:KV):Prop:=vc w P 20 (.A (.Name g.ge.x g.ge.px) u ⟨4,[],g.ge.scope,code⟩ ⟨[(4,.ns "dict" l)],6⟩ fun st2=>vc w P 20 (.E g.ge.elt ⟨4,[],g.ge.scope,code⟩ st2 K))
theorem ss_st:GSt ssG ssFr "sorted" []:=⟨by kernel_rfl,by kernel_rfl,by kernel_rfl,by kernel_rfl,by kernel_rfl⟩
theorem ss_b(w:World)(code it:Value)(s:Bool)(u:Int)(K:KV):gxF w (P5 w) ssG (.num s u) code [(".0",.top it)] K=(u.natAbs≤50∧K (.str (itxt u)) ⟨[(4,.ns "dict" [(".0",.top it),(ssG.ge.x,.num s u)])],6⟩):=by kernel_rfl
theorem ss_b2(w:World)(code it v:Value)(s:Bool)(u:Int)(K:KV):gxF w (P5 w) ssG (.num s u) code [(".0",.top it),(ssG.ge.x,.top v)] K=(u.natAbs≤50∧K (.str (itxt u)) ⟨[(4,.ns "dict" [(".0",.top it),(ssG.ge.x,.num s u)])],6⟩):=by kernel_rfl
theorem ss_ok{w:World}{s:Bool}{u:Int}(h:u.natAbs≤50):GxB w (P5 w) 20 ssG.ge.scope none ssG.ge.x ssG.ge.px ssG.ge.elt (.num s u) (.str (itxt u)):=fun code G ρ o it I Ob=>⟨rfl,fun l hl=>by
 cases hl with
 |one=>exact(ss_b w code it s u _).mpr ⟨h,rfl,rfl,fun _ _ q=>nomatch q⟩
 | @two v=>exact(ss_b2 w code it v s u _).mpr ⟨h,rfl,rfl,fun _ _ q=>nomatch q⟩⟩
noncomputable def strOf(x:SV):SV:=match x with
 | .num _ u=>.str (itxt u)
 |x=>x
theorem ssT_ok(w:World)(d:Nat):SpOk w (d+8) (ssT w):=fun e fr K z env h ev A E ha ok=>by
 obtain⟨⟨rfl,rfl⟩,h⟩:=h
 obtain⟨xv,h1,h⟩:=zr h
 obtain⟨us,h2,h⟩:=zr h
 obtain⟨ns,h3,h4,⟨h5,h6⟩,k⟩:=zr h
 have hm:∀u∈us,∃p∈ns,u=nu p:=fun u m=>let⟨p,m1,e⟩:=mapO_mem h3 m;⟨p,m1,asN_ok e⟩
 have hl:us.length=ns.length:=(xf h3).symm▸List.length_map ..
 refine gx_sp (N:=20) (c:=none) (P5_ok w d) ss_st ⟨_,_,_,rfl,code44 _⟩ (by kernel_rfl) trivial h1 h2 h4 strOf (fun u m=> ?_) ev (ha.mono (Nat.le_add_right _ 2)) ok fun ys a o z' hy L e1 e2 e3=> ?_
 ·obtain⟨p,m1,rfl⟩:=hm u m
  exact ss_ok (h6 p m1)
 ·have hs:∀y∈ys,txt1 y:=fun y m=>by
   obtain⟨u,m1,rfl⟩:=List.mem_map.mp (hy.mem_iff.mp m)
   obtain⟨p,m2,rfl⟩:=hm u m1
   exact⟨_,rfl,itxt_len (h6 p m2)⟩
  have hn:ys.length≤8:=hy.length_eq.trans (List.length_map ..)|>.trans hl▸h5
  refine wpAny_pure (sorted_txt (d:=d+6) ha ok (xj fun y m=>let⟨_,e,_⟩:=hs y m;e▸rfl) (fun y m=>let⟨_,e,_⟩:=hs y m;e▸rfl) (fun _ _=>rfl) (Nat.lt_of_le_of_lt hn (by decide)) L e1 e2 fun zs hz=> ?_)
  have:=k zs ⟨hz.length_eq.symm▸Nat.le_trans hn (by decide),fun y m=>hs y (hz.mem_iff.mp m)⟩
  exact e3▸this
noncomputable def ssR(w:World)(x:SV)(K:SV→Prop):Prop:=(ssG.exp=ssG.exp∧ssFr=ssFr)∧wv w x fun ns=>(ns.length≤8∧∀p∈ns,p.2.natAbs≤50)∧∀zs,txts zs→((", ":Str).length≤64∧txts zs)∧∀z:Str,z.length≤100000→
 ("{":Str).length+z.length≤sizeLine∧(("{":Str)++z).length+("}":Str).length≤sizeLine∧K (.str (("{":Str)++z++ "}"))
theorem ss_r(w:World)(led:Bool)(l:List Int)(K:SV→Prop):yh w ((P5 w).sp 21 (ssT w)) 60 45 0 [.vset led l] [] st0 (yb K)=ssR w (.vset led l) K:=by kernel_rfl
theorem range6_abs{n:Int}(h:n∈range6):n.natAbs≤50:=by
 have:∀n∈range6,n.natAbs≤50:=by decide
 exact this n h
noncomputable def ssH(w:World)(x:SV)(st:St):Tr:=(wq x).bind fun p=>some fun K=>p.1=(!zy w)∧∀z:Str,K (.str z) st
noncomputable def soft(T:BT):BT:=fun xs ks st=>some fun K=>zg (T xs ks st) fun t=>t K
noncomputable def scG:GCall:=gcOf (asgE (sAt (tp 3).2.1 0))
noncomputable def scFr:FrS:=⟨4,[],(tp 3).2.2,.ref 36⟩
noncomputable def candR(u:SV):List Int:=match u with
 | .vset _ l=>l
 | .vlist us=>yl ((zJ asN us).getD [])
 | .tup us=>yl ((zJ asN us).getD [])
 |_=> []
noncomputable abbrev yK(w:World)(u:SV):SV:= .vset (!zy w) (candR u)
noncomputable def yL(w:World)(u:SV):Prop:=∀(st:St) (K:KV),K (yK w u) st→zg (candT w u .no st) fun t=>t K
noncomputable def scT(w:World):SpT:=fun e fr st K=>(e=scG.exp∧fr=scFr)∧zg (y6 scFr st scG.ge.itn) fun x=>zg (wZ x) fun us=>(ledOk w x∧zt us=true)∧us.length<64∧(∀u∈us,yL w u)∧∀zs,zs.Perm (us.map (yK w))→K (.vlist zs) st
noncomputable def P6(w:World):Prims:={P5 w with call:=zp (onA 45 (b1 (ssH w))) (P5 w).call}
noncomputable def P6s(w:World):Prims:={P6 w with call:=zp (onA 30 (soft (candH w))) (P6 w).call}
section
variable {w:World}{d:Nat}
theorem BTOk.soft{v:Value}{T:BT}(h:BTOk w d v T):BTOk w d v (soft T):=fun xs ks t K z vs kvs e k q qk=>by
 cases e
 obtain⟨t,e1,k⟩:=zr k
 exact h xs ks t K z vs kvs e1 k q qk
theorem ssH_ok:BTOk w (d+9) (.ref 45) (b1 (ssH w)):=yx fun x t K z v e k q=>by
 obtain⟨p,e1,e⟩:=zz e
 cases e
 obtain⟨h0,k⟩:=k
 obtain rfl:=yT e1
 have sm:smallL p.2:=let⟨_,hs⟩:=q.inv;hs.1
 obtain⟨m1,m2⟩:=mapO_nu (p.2.map fun n=>(true,n))
 rw [show(p.2.map fun n=>(true,n)).map nu=p.2.map SV.sint from List.map_map ..]at m1 m2
 refine zM (k:=0) (n:=60) (Sound.sp (P5_ok w (d+4)) (ssT_ok w d)) rfl rfl ((ss_r w p.1 p.2 _).mpr ⟨⟨rfl,rfl⟩,numsB_of rfl m1 ⟨h0,m2⟩ ⟨⟨?_,fun q m=> ?_⟩,fun zs hz=>⟨⟨by decide,hz⟩,fun s hs=>⟨Nat.le_trans (Nat.add_le_add_left hs 1) (sizeLine_eq▸by decide),?_,k _⟩⟩⟩⟩) (.cons q .nil) .nil
 ·exact Nat.le_trans (Nat.le_trans (Nat.le_of_eq (List.length_map ..)) sm.four) (show 4≤8 by decide)
 ·obtain⟨n,m1,rfl⟩:=List.mem_map.mp m
  exact range6_abs (sm.six m1)
 ·rw [Str.length_append]
  exact Nat.le_trans (Nat.succ_le_succ (Nat.add_le_add_left hs 1)) (sizeLine_eq▸by decide)
theorem P6_ok(w:World)(d:Nat):Sound w (P6 w) (d+9):={P5_ok w (d+5)with call:=CallOk.or (BTOk.at ssH_ok) (P5_ok w (d+5)).call}
theorem P6s_ok(w:World)(d:Nat):Sound w (P6s w) (d+9):={P6_ok w d with call:=CallOk.or (BTOk.at (BTOk.soft candH_ok)) (P6_ok w d).call}
end
theorem sc_st:GSt scG scFr "sorted" []:=⟨by kernel_rfl,by kernel_rfl,by kernel_rfl,by kernel_rfl,by kernel_rfl⟩
theorem sc_b(w:World)(code it:Value)(u:SV)(K:KV):gxF w (P6s w) scG u code [(".0",.top it)] K=zg (candT w u .no ⟨[(4,.ns "dict" [(".0",.top it),(scG.ge.x,u)])],6⟩) fun t=>t K:=by kernel_rfl
theorem sc_b2(w:World)(code it v:Value)(u:SV)(K:KV):gxF w (P6s w) scG u code [(".0",.top it),(scG.ge.x,.top v)] K=zg (candT w u .no ⟨[(4,.ns "dict" [(".0",.top it),(scG.ge.x,u)])],6⟩) fun t=>t K:=by kernel_rfl
theorem sc_ok{w:World}{u:SV}(h:yL w u):GxB w (P6s w) 20 scG.ge.scope none scG.ge.x scG.ge.px scG.ge.elt u (yK w u):=fun code G ρ o it I Ob=>⟨rfl,fun l hl=>by
 cases hl with
 |one=>exact(sc_b w code it u _).mpr (h _ _ ⟨rfl,rfl,fun _ _ q=>nomatch q⟩)
 | @two v=>exact(sc_b2 w code it v u _).mpr (h _ _ ⟨rfl,rfl,fun _ _ q=>nomatch q⟩)⟩
noncomputable def scR(w:World)(us:List SV)(K:SV→Prop):Prop:=(scG.exp=scG.exp∧scFr=scFr)∧(True∧zt us=true)∧us.length<64∧(∀u∈us,yL w u)∧∀zs,zs.Perm (us.map (yK w))→zg (y5 6 st0 (.vlist zs)) fun p=>K p.1
theorem sc_r(w:World)(us:List SV)(K:SV→Prop):yh w ((P6 w).sp 18 (scT w)) 60 37 0 [.vlist us] [] st0 (yb K)=scR w us K:=by kernel_rfl
noncomputable def hdK(l:List Keyword):Keyword:=match l with
 |k::_=>k
 | []=>⟨none,e00,p0⟩
theorem sc_ks:scG.ks=[⟨some "key",.Name (zT (hdK scG.ks).value).1 (zT (hdK scG.ks).value).2,(hdK scG.ks).pos⟩]:=by kernel_rfl
theorem sc_rd(st:St):y6 scFr st (zT (hdK scG.ks).value).1=some (.top (.ref 45)):=by kernel_rfl
theorem freeze_vl{n:Nat}{st:St}{zs:List SV}{f:SV×St→Prop}(h:f (.vlist zs,st)):zg (y5 (n+1) st (.vlist zs)) f:=h
section
variable {w:World}{d:Nat}
theorem scT_ok:SpOk w (d+13) (scT w):=fun e fr K z env h ev A E ha ok=>by
 obtain⟨⟨rfl,rfl⟩,h⟩:=h
 obtain⟨xv,h1,h⟩:=zr h
 obtain⟨us,h2,h3,h64,hc,k⟩:=zr h
 refine gx_sp (N:=20) (c:=none) (P6s_ok w d) sc_st ⟨_,_,_,rfl,code36 _⟩ (by kernel_rfl) trivial h1 h2 h3 (yK w) (fun u m=>sc_ok (hc u m)) ev (ha.mono (Nat.le_add_right _ 2)) ok fun ys a o z' hy L e1 e2 e3=> ?_
 rw [sc_ks]
 refine wpAny_evalAll_cons (wpAny_bind (wpAny_Name (yX (sc_rd _) (L.step.ok ok) (L.step.env ev) fun u q=> ?_) (by kernel_rfl)))
 cases q.inv
 refine wpAny_bind (wpAny_standAt (wpAny_pure (wpAny_evalAll_nil ?_)))
 have hm:∀y∈ys,∃u∈us,yK w u=y:=fun y m=>List.mem_map.mp (hy.mem_iff.mp m)
 have hl:ys.length=us.length:=hy.length_eq.trans (List.length_map ..)
 refine sorted_key (d:=d+11) ha ok (xj fun y m=>let⟨_,_,e⟩:=hm y m;e▸rfl) (fun _ _=>rfl) (hl▸h64) L e1 e2 (fun y m z1 v hz q=> ?_) fun zs hz=> ?_
 ·obtain⟨u,_,rfl⟩:=hm y m
  exact ssH_ok (d:=d+2) _ [] _ _ z1 _ _ rfl ⟨rfl,fun s=>⟨rfl,hz⟩⟩ (.cons q .nil) .nil
 ·have:=k zs (hz.trans hy)
  exact e3▸this
end
noncomputable def scH(w:World)(x:SV)(st:St):Tr:=match x with
 | .vlist us=>some fun K=>us.length<64∧(∀u∈us,yL w u)∧∀zs,zs.Perm (us.map (yK w))→K (.vlist zs) st
 |_=>none
noncomputable def frz1(f:SV→St→Tr)(x:SV)(st:St):Tr:=match x with
 | .ref i=>(y5 6 st (.ref i)).bind fun p=>f p.1 p.2
 |x=>f x st
section
variable {w:World}{d:Nat}{b:Value}
theorem frz1_ok{f:SV→St→Tr}(h:BTOk w d b (b1 f)):BTOk w d b (b1 (frz1 f)):=yx fun x t K z v e k q=>by
 have plain:f x z.st=some t→W w d VRel K z (call b [v] []):=fun e=>h [x] [] t K z [v] [] e k (.cons q .nil) .nil
 induction x using SV.casesOn with
 |ref i=>
  obtain⟨p,e1,e⟩:=zz e
  intro A E ha ok
  rcases yg 6 e1 ok.rep q with @⟨G,S,v1,p1⟩
  exact wm (h [p.1] [] t K ⟨G,z.ρ,p.2,z.s⟩ [v] [] e k (.cons v1 .nil) .nil A E ha (S.ok ok)) fun _ _ q=>.from S q
 |_=>exact plain e
theorem scH_ok:BTOk w (d+14) (.ref 37) (b1 (scH w)):=yx fun x t K z v e k q=>by
 induction x using SV.casesOn with
 |vlist us=>
  cases e
  obtain⟨h64,hc,k⟩:=k
  have hp:zt us=true:=q.inv.1
  exact zM (k:=0) (n:=60) (Sound.sp ((P6_ok w (d+4)):Sound w (P6 w) (d+13)) scT_ok) rfl rfl ((sc_r w us _).mpr ⟨⟨rfl,rfl⟩,⟨trivial,hp⟩,h64,hc,fun zs hz=>freeze_vl (k zs hz)⟩) (.cons q .nil) .nil
 |_=>exact(zu rfl e).elim
end
noncomputable def P7(w:World):Prims:={P6 w with call:=zp (onA 37 (b1 (frz1 (scH w)))) (P6 w).call}
theorem P7_ok(w:World)(d:Nat):Sound w (P7 w) (d+14):={P6_ok w (d+5)with call:=CallOk.or (BTOk.at (frz1_ok scH_ok)) (P6_ok w (d+5)).call}
noncomputable def insA(x:SV)(n:Str)(st:St):Option Addr:=match x with
 | .vinst C fs=>zj (fs.lookup n).isNone (some C)
 | .obj C d=>(asInst st d).bind fun fs=>zj (fs.lookup n).isNone (some C)
 |_=>none
inductive InsI(z:Z)(C:Addr)(n:Str):Value→Prop
 |mk {a d od}:W.InstAt z.s.heap a (instObj C d) C (some od)→lookIn n od=some none→InsI z C n (.ref a)
noncomputable def mtT:List (Nat×Str×Nat):=[(362,"fastest_available_algorithm",351),(362,"verify_compute_parameters",359),(666,"add_voter",593),(666,"_unique_voter",586)]
theorem mt_fine(P:Params):mtT.map (fun m=>(findIn (KH P) (.ref m.1) m.2.1,findIn (KH P) (.ref m.1) "__getattribute__",findIn (KH P) (.ref m.1) "__getattr__",typeIn (KH P) (.ref m.2.2)))=mtT.map fun m=>(some (some (.ref m.2.2)),some (some (.builtin "object.__getattribute__")),some none,some (.type "function")):=by kernel_rfl
noncomputable def pickM(C:Nat)(n:Str):List (Nat×Str×Nat)→Option Nat
 | []=>none
 |m::r=>match Nat.beq C m.1&&n==m.2.1 with
  |true=>some m.2.2
  |false=>pickM C n r
noncomputable def methI(x:SV)(n:Str)(st:St):Option (SV×List SV):=(insA x n st).bind fun C=>(pickM C n mtT).bind fun f=>some (.top (.ref f),[x])
noncomputable def attP0(w:World)(P:Prims):Str→SV→St→Tr:=fun n x st=>zj (n=="num_cand") ((insA x n st).bind fun C=>zj (Nat.beq C 666) (some fun K=>yh w P 20 564 0 [x] [] st fun v st1=>zI (noTop v) (K v st1)))
noncomputable def attP(w:World)(P:Prims):Str→SV→St→Tr:=fun n x st=>match x.pure with
 |true=>(attP0 w P n x st0).bind fun t=>some fun K=>t (yb fun v=>K v st)
 |false=>attP0 w P n x st
noncomputable def callI(w:World)(P:Prims):CallH:=fun f xs ks st=>(insA f "__call__" st).bind fun C=>zj (Nat.beq C 252) (some (yh w P 40 249 0 (f::xs) ks st))
noncomputable def lenI(w:World)(P:Prims)(x:SV)(st:St):Tr:=(insA x "__len__" st).bind fun C=>zj (Nat.beq C 666) (some fun K=>yh w P 20 579 0 [x] [] st fun v st1=>zg (asN v) fun p=>(0≤p.2∧p.2<2^63)∧K v st1)
section
variable {w:World}{d n:Nat}{z:Z}{P:Prims}{A:Around}{E:Value→Shared→Prop}{x:SV}{v:Value}{K:KV}{C:Addr}
theorem w6{n:Str}(h:insA x n z.st=some C)(r:Rep z)(q:VRel z.y x v):InsI z C n v:=by
 have q:=q.inv
 induction x using SV.casesOn with
 |vinst C fs=>
  obtain⟨h1,h⟩:=zv h
  cases h
  rcases q with⟨a,b,c,f⟩
  exact .mk (yo (r.sub _ _ a) (r.sub _ _ b)) ((look_of c n).trans (congrArg _ (f.lookup_none n (Option.isNone_iff_eq_none.mp h1))))
 |obj C d=>
  obtain⟨fs,hh,h⟩:=zz h
  obtain⟨h1,h⟩:=zv h
  cases h
  rcases q with⟨_,a⟩
  obtain⟨l,od,h2,h3,h4⟩:=r.inst_of (xb hh)
  exact .mk (yo (r.sub _ _ a) h2) ((look_of h3 n).trans (congrArg _ (h4.lookup_none n (Option.isNone_iff_eq_none.mp h1))))
 |_=>exact(zu rfl h).elim
theorem pickM_ok{C f:Nat}{n:Str}{l}(h:pickM C n l=some f):(C,n,f)∈l:=by
 induction l with
 |nil=>cases h
 |cons m r ih=>
  unfold pickM at h
  cases e:Nat.beq C m.1&&n==m.2.1 with
  |false=>rw [e]at h;exact .tail _ (ih h)
  |true=>
   rw [e]at h
   obtain⟨a,b⟩:=zx e
   exact Nat.eq_of_beq_eq_true a▸eq_of_beq b▸Option.some.inj h▸ .head _
theorem methI_ok{n:Str}{f:SV}{xs:List SV}{pl:Sem Bool}{Q:Value×List Value→Shared→Prop}(h:methI x n z.st=some (f,xs))(ok:Ok w z)(q:VRel z.y x v)(hQ:∀fv vs,VRel z.y f fv→VRels z.y xs vs→Q (fv,vs) z.s):wpAny (model pw w) A (getMethod v n pl) Q E z.s:=by
 obtain⟨C,e1,h⟩:=zz h
 obtain⟨f,e2,h⟩:=zz h
 cases h
 have hQ:=hQ _ _ .top (.cons q .nil)
 rcases w6 e1 ok.rep q with⟨I,hl⟩
 obtain⟨m1,m⟩:=Prod.mk.inj (List.map_inj_left.mp (mt_fine w.params) _ (pickM_ok e2))
 obtain⟨m2,m⟩:=Prod.mk.inj m
 obtain⟨m3,m4⟩:=Prod.mk.inj m
 exact method_fn ok.kin I m2 m3 m1 m4 (by show(lookIn n _).map _=_;rw [hl];rfl) hQ
theorem AOk.in1{x:Nat}(h:AOk (d+1) A)(hx:A.in1.units=A.units+x)(h16:x≤13):∀env,AOk d (A.in1.deeper env):=fun env=>h.of (x:=1) (y:=x+3) rfl rfl ((congrArg (· +3) hx).trans (Nat.add_assoc ..)) (by decide) (Nat.add_le_add_right h16 3)
theorem attP0_ok(S:Sound w P d):OpOk w (d+1) (h1 oAtt (attP0 w P)):=h1_ok oAtt_ok fun n x t K z v e k q A E ha ok=>by
 obtain⟨e0,e⟩:=zv e
 obtain⟨C,e1,e⟩:=zz e
 obtain⟨e2,e⟩:=zv e
 cases e
 obtain rfl:=eq_of_beq e0
 rcases w6 e1 ok.rep q with @⟨a,_,od,I,_⟩
 obtain rfl:C=666:=Nat.eq_of_beq_eq_true e2
 have X:=ok.kin
 refine get_bind (a:= .ref 565) (g:= .builtin "property.__get__") X I (by kernel_rfl) (findObj_data (by kernel_rfl) (by kernel_rfl) (by kernel_rfl) (by kernel_rfl)) (by kernel_rfl) ?_
 have T:Step z (z.sh {z.s with toks:=z.s.toks+1}):=ok.rep.grow (fun _ _ e=>e) (.same rfl rfl)
 refine wpAny_call (prop_get (fget:=564) (rest:=[.none,.none,.none,.str "num_cand" 953,.bool false]) (s:={z.s with toks:=z.s.toks+1}) X (by kernel_rfl) ?_)
 refine fn_core (z:=z.sh {z.s with toks:=z.s.toks+1}) S k (T.ok ok) (.cons (T.val q) .nil) .nil ha.room (ha.in1 rfl (by decide)) fun z1 v u S1 o1 p k=> ?_
 obtain⟨h,k⟩:=zm k
 exact handed_on (noTop_hand p h) (.mk (z':=z1.to (z1.st.drop z.st.nx)) (T.trans (S1.trans (S1.rep.forget z.st.nx))) p k)
theorem attP_ok(S:Sound w P d):OpOk w (d+1) (h1 oAtt (attP w P)):=h1_ok oAtt_ok fun n x t K z v e k q=>by
 unfold attP at e
 cases hp:x.pure with
 |false=>rw [hp]at e;exact attP0_ok S (.attr n) [x] t K z [v] e k (.cons q .nil)
 |true=>
  rw [hp]at e
  obtain⟨t,e1,e⟩:=zz e
  cases e
  exact W.base (attP0_ok S (.attr n) [x] t _ (z.to st0) [v] e1 k (.cons (q.move hp) .nil))
theorem callI_ok(S:Sound w P d):CallOk w (d+1) (callI w P):=fun f xs ks t K z fv vs kvs e k q qs qk A E ha ok=>by
 obtain⟨C,e1,e⟩:=zz e
 obtain⟨e2,e⟩:=zv e
 cases e
 rcases w6 e1 ok.rep q with @⟨a,_,od,I,_⟩
 obtain rfl:C=252:=Nat.eq_of_beq_eq_true e2
 refine wpAny_call (kco_code (f:=249) ok.kin I rfl (by kernel_rfl) (by kernel_rfl) (by kernel_rfl) ?_)
 exact fn_core (K':=fun v st=>K v (st.drop z.st.nx)) S k ok (.cons q qs) qk ha.room (fun _=>ha.deeper) fun z1 v u S1 o1 p k=>.mk (z':=z1.to (z1.st.drop z.st.nx)) (S1.trans (S1.rep.forget z.st.nx)) p k
theorem wp_neg{α:Type}{c:Prop}[Decidable c]{t e:Sem α}{Q:α→Shared→Prop}{s:Shared}(h:¬c)(k:wpAny (model pw w) A e Q E s):wpAny (model pw w) A (if c then t else e) Q E s:=(if_neg h).symm▸k
theorem len_inst{s:Shared}{KF:Frag}{a f:Addr}{ox:Obj}{od:Option Obj}{Q:Value→Shared→Prop}(X:KF.In s.heap)(I:W.InstAt s.heap a ox C od)(hs:findIn KF (.ref C) "__len__"=some (some (.ref f)))(hf:isFn KF (.ref f)=true)
  (h:wpAny (model pw w) A.in1 (call (.ref f) [.ref a]) (fun v s'=>∃n t,v= .int n t∧(0≤n∧n<2^63)∧Q (.int n s'.toks) {s' with toks:=s'.toks+1}) E s):wpAny (model pw w) A (call (.builtin "len") [.ref a]) Q E s:=by
 refine Calls.call_function_entry kind_len plain_len entry_len (args_len1 _) ?_
 unfold Builtin.«len»
 refine wpAny_bind (m:=oneArg "len" _) (wpAny_pure ?_)
 refine wpAny_bind (m:=callSpecial? (.ref a) (Str.ofString "__len__")) (special_fn X I hs (beq_iff_eq.mp hf) (wm h fun r s' ⟨n,t,e,⟨h0,h1⟩,hq⟩=> ?_))
 subst e
 refine wpAny_bind (wpAny_holding (wpAny_pure ?_))
 refine wpAny_bind (wpAny_letGo ?_)
 refine wp_neg (Int.not_lt.mpr h0) (wp_neg (Int.not_le.mpr h1) ?_)
 exact wpAny_bind (wpAny_mkInt (wpAny_pure ⟨_,rfl,hq⟩))
theorem lenI_ok(S:Sound w P d):BTOk w (d+2) (.builtin "len") (b1 (lenI w P)):=yx fun x t K z v e k q A E ha ok=>by
 obtain⟨C,e1,e⟩:=zz e
 obtain⟨e2,e⟩:=zv e
 cases e
 rcases w6 e1 ok.rep q with @⟨a,_,od,I,_⟩
 obtain rfl:C=666:=Nat.eq_of_beq_eq_true e2
 refine len_inst (f:=579) ok.kin I (by kernel_rfl) (by kernel_rfl) ?_
 refine(inlT_ok S k (.cons q .nil) .nil).go ok (ha.of (A':=A.in1) (x:=0) (y:=1) rfl rfl rfl (by decide) (by decide)) fun z1 v u S1 o1 p k=> ?_
 obtain⟨p',e,h,k⟩:=zr k
 obtain⟨t,rfl⟩:=zL e p
 obtain rfl:=asN_ok e
 exact⟨_,t,rfl,h,.from S1 (o1.rep.endT .num k)⟩
end
noncomputable def softV{α:Type}(f:α→SV)(T:BT):BT:=fun xs ks st=>some fun K=>∃a,(∀K:KV,K (f a) st→zg (T xs ks st) fun t=>t K)∧K (f a) st
theorem BTOk.softV{w:World}{d:Nat}{v:Value}{T:BT}{α:Type}{f:α→SV}(h:BTOk w d v T):BTOk w d v (softV f T):=fun xs ks t K z vs kvs e k q qk=>by
 cases e
 obtain⟨a,k1,k2⟩:=k
 obtain⟨t,e1,k⟩:=zr (k1 K k2)
 exact h xs ks t K z vs kvs e1 k q qk
theorem zl{α β:Type}{f g:α→β}{l:List α}(h:l.map f=l.map g){a:α}(m:a∈l):f a=g a:=List.map_inj_left.mp h a m
noncomputable def P8(w:World):Prims:={P7 w with
 op:=yw (h1 oAtt (attP w (P7 w))) (P7 w).op
 meth:=fun x n st=>orE (methI x n st) ((P7 w).meth x n st)
 call:=zp (inlH w (P7 w) 40 [(285,0),(292,0),(299,0),(313,0),(252,1)])<|zp (onB false "len" (b1 (lenI w (P7 w)))) (P7 w).call}
theorem P8_ok(w:World)(d:Nat):Sound w (P8 w) (d+16):={P7_ok w (d+2)with
 op:=(attP_ok (P7_ok w (d+1))).or (P7_ok w (d+2)).op
 meth:=fun x n f xs z v pl A E Q h ok q hQ=>(yi h).elim (fun h=>methI_ok h ok q hQ) fun h=>(P7_ok w (d+2)).meth x n f xs z v pl A E Q h ok q hQ
 call:=CallOk.or (yH (P7_ok w (d+1)) _)<|CallOk.or (BTOk.on (ty:=false) (lenI_ok (P7_ok w d))) (P7_ok w (d+2)).call}
noncomputable abbrev mfs(s:Str):List (Str×SV):=[("name",.str s),("param",.non)]
noncomputable def four:List Str:=["pav","adams","slav","cc"]
noncomputable def k4:List Int:=[1,2,3,4]
noncomputable def fN(s:Str)(k:Int):Int:=match s=="cc",k==1 with
 |true,false=>0
 |_,_=>1
noncomputable def fD(s:Str)(k:Int):Int:=match s=="pav",s=="slav",s=="adams"&& !(k==1)with
 |true,_,_=>k
 |_,true,_=>2*k-1
 |_,_,true=>k-1
 |_,_,_=>1
noncomputable def fQ(s:Str)(k:Int):Rat:=Rat.divInt (fN s k) (fD s k)
noncomputable def sk4:List (Str×Int):=four.flatMap fun s=>k4.map fun k=>(s,k)
theorem sk_of{s:Str}{k:Int}(h:s∈four)(hk:k∈k4):(s,k)∈sk4:=List.mem_flatMap.mpr ⟨s,h,List.mem_map.mpr ⟨k,hk,rfl⟩⟩
noncomputable def mulC(s:Str)(k:Int)(R:Prop):Prop:=match s=="slav" with
 |true=>IntMulOk 2 k∧R
 |false=>R
theorem m_all(w:World)(K:SV→Prop):sk4.map (fun p=>yh w (P8 w) 40 249 0 [.vinst 252 (mfs p.1),.int p.2] [] st0 (yb K))=sk4.map fun p=>mulC p.1 p.2 (fD p.1 p.2≠0∧(fD p.1 p.2).natAbs<2^64∧K (.frac (fQ p.1 p.2))):=by kernel_rfl
theorem fD_fine:sk4.all (fun p=>decide (p.2.natAbs<2^64∧fD p.1 p.2≠0∧(fD p.1 p.2).natAbs<2^64))=true:=by decide+kernel
noncomputable def instC(x:SV):Option Addr:=match x with
 | .vinst C _=>some C
 |_=>none
noncomputable def callM:CallH:=fun f xs ks st=>(instC f).bind fun C=>zj (Nat.beq C 252) (b1 (fun x st=>(asN x).bind fun p=>some fun K=>∃s,(f= .vinst 252 (mfs s)∧s∈four∧p.2∈k4)∧K (.frac (fQ s p.2)) st) xs ks st)
theorem g_all(w:World)(K:SV→Prop)(n:SV):four.map (fun s=>yh w (P8 w) 40 264 0 [.str s,n] [] st0 (yb K))=four.map fun s=>K (.vinst 252 (mfs s)):=by kernel_rfl
noncomputable def gmT(x y:SV)(st:St):Tr:=(asS x).bind fun s=>zj y.pure (some fun K=>s∈four∧K (.vinst 252 (mfs s)) st)
theorem mulC_of{s:Str}{k:Int}{R:Prop}(h:IntMulOk 2 k)(r:R):mulC s k R:=by
 unfold mulC
 cases s=="slav"
 ·exact r
 ·exact⟨h,r⟩
section
variable {w:World}{d:Nat}
theorem callM_ok:CallOk w (d+17) callM:=fun f xs ks t K z fv vs kvs e k q qs qk=>by
 obtain⟨C,e1,e⟩:=zz e
 obtain⟨e2,e⟩:=zv e
 rcases xs with _|⟨x,_|⟨_,_⟩⟩
 ·exact(zu rfl e).elim
 ·rcases ks with _|⟨_,_⟩
  ·obtain⟨p,e3,e⟩:=zz e
   cases e
   obtain⟨s,⟨rfl,hs,hk⟩,k⟩:=k
   obtain⟨v,rfl,q1⟩:=qs.one
   obtain⟨t,rfl⟩:=zL e3 q1
   obtain rfl:=qk.nil_inv
   have m:=sk_of hs hk
   obtain⟨h0,h⟩:=of_decide_eq_true (List.all_eq_true.mp fD_fine _ m)
   refine W.base (callI_ok (P8_ok w d) (.vinst 252 (mfs s)) [.int p.2] [] _ _ (z.to st0) _ _ _ rfl ?_ (q.move rfl) (.cons .num .nil) .nil)
   exact(zl (m_all w fun v=>K v z.st) m).mpr (mulC_of (y9 h0) ⟨h.1,h.2,k⟩)
  ·exact(zu rfl e).elim
 ·exact(zu rfl e).elim
theorem gmT_ok:BTOk w (d+17) (.ref 264) (b2 gmT):=b2_ok fun x y t K z v u e k q1 q2=>by
 obtain⟨s,e1,e⟩:=zz e
 obtain⟨hp,e⟩:=zv e
 cases e
 exact zM (k:=0) (n:=40) (P8_ok w d) (show zt [.str s,y]=true from(Bool.and_eq_true _ _).mpr ⟨rfl,(Bool.and_eq_true _ _).mpr ⟨hp,rfl⟩⟩) rfl ((zl (g_all w _ y) k.1).mpr k.2) (.cons (asS_ok e1▸q1) (.cons q2 .nil)) .nil
end
noncomputable def P9(w:World):Prims:={P8 w with call:=zp callM<|zp (onA 264 (b2 gmT)) (P8 w).call}
theorem P9_ok(w:World)(d:Nat):Sound w (P9 w) (d+17):={P8_ok w (d+1)with call:=callM_ok.or<|CallOk.or (BTOk.at gmT_ok) (P8_ok w (d+1)).call}
noncomputable abbrev zk(led:Bool)(v:List Int×Int):SV:= .vinst 703 [("approved",.vset led v.1),("weight",.sint v.2)]
noncomputable abbrev xy:SV:= .vlist [.int 0,.int 1,.int 2,.int 3,.int 4,.int 5]
noncomputable abbrev namesSV:SV:= .vlist [.str "0",.str "1",.str "2",.str "3",.str "4",.str "5"]
noncomputable abbrev zw(led:Bool)(vs:List (List Int×Int)):SV:= .vinst 666 [("candidates",xy),("cand_names",namesSV),("_voters",.vlist (vs.map (zk led)))]
noncomputable abbrev xO:Expr×Expr×List Stmt:=forP (sAt (tp 12).2.1 2)
noncomputable abbrev thIn:Expr×Expr×List Stmt:=forP (sAt xO.2.2 1)
noncomputable def thFr:FrS:=⟨4,[],(tp 12).2.2,.ref 270⟩
noncomputable def thL(s:Str)(p c:SV)(q:Rat):List (Str×SV):=[("scorefct_id",.str s),("profile",p),("committee",c),("marginal_scorefct",.vinst 252 (mfs s)),("score",.frac q)]
noncomputable def thS(n:Nat)(s:Str)(p c:SV)(q:Rat):St:=⟨[(4,.ns "part" (thL s p c q))],n⟩
noncomputable def thI(n:Nat)(s:Str)(p c:SV)(q:Rat)(u:SV)(k:Int):St:=⟨[(4,.ns "part" (thL s p c q++([("vote",u),("cand_in_com",.int k)]:List (Str×SV))))],n⟩
noncomputable def thK:List Str:=["scorefct_id","profile","committee","marginal_scorefct","score"]
noncomputable def thK1:Kp:=⟨thK,[],["profile","committee"]⟩
noncomputable def thK2:Kp:=⟨"vote"::"cand_in_com"::thK,[],["profile","committee","vote"]⟩
noncomputable abbrev Dd(q:Rat):Prop:=q.den∣420
noncomputable def xC(s:Str)(w:Int):Nat→Rat→Rat
 |0,q=>q
 |k+1,q=>xC s w k q+fQ s ((k:Int)+1)*w
noncomputable def thInT(w:World):FlT:=fun t x b fr st K=>((t,b)=(thIn.1,thIn.2.2)∧fr=thFr)∧∃s p c q v zs,(st=thI 6 s p c q (zk (!zy w) v) 0∧x= .vset (!zy w) zs∧(p.pure=true∧c.pure=true)∧s∈four∧zs.length≤4∧Dd q∧v.2.natAbs<2^64)∧K .next (thI 7 s p c (xC s v.2 zs.length q) (zk (!zy w) v) zs.length)
theorem th_in(w:World)(K:KF)(J:St→Prop)(s:Str)(p c:SV)(q:Rat)(v:List Int×Int)(k:Nat)(y:Int):vc w (P9 w) 30 (.A thIn.1 (.sint y) thFr (thI 7 s p c q (zk (!zy w) v) k) fun st1=>vc w (P9 w) 30 (.Ss thIn.2.2 thFr st1 (yZ K (zK 5 6 thK2 J))))=
 ∃s',(SV.vinst 252 (mfs s)= .vinst 252 (mfs s')∧s'∈four∧(k:Int)+1∈k4)∧((fQ s' ((k:Int)+1)).den<2^64∧(v.2:Rat).num.natAbs<2^64)∧q.den*(fQ s' ((k:Int)+1)*(v.2:Rat)).den<2^64∧True∧(p.pure=true∧c.pure=true∧(zk (!zy w) v).pure=true∧True)∧J (thI 7 s p c (q+fQ s' ((k:Int)+1)*v.2) (zk (!zy w) v) ((k:Int)+1)):=by kernel_rfl
theorem th_an(w:World)(J:St→Prop)(s:Str)(p c:SV)(q:Rat)(v:List Int×Int)(k:Int):zK 5 6 thK2 J (thI 6 s p c q (zk (!zy w) v) k)=(True∧(p.pure=true∧c.pure=true∧(zk (!zy w) v).pure=true∧True)∧J (thI 7 s p c q (zk (!zy w) v) k)):=by kernel_rfl
theorem it_set(w:World)(led:Bool)(zs:List Int)(st:St):(P9 w).iter (.vset led zs) st=some fun K=>led= !zy w∧allN zs.length fun ys=>ys.Perm zs→K (.iset ys) st:=rfl
theorem th_t:thIn.1= .Name (zT thIn.1).1 (zT thIn.1).2:=by kernel_rfl
theorem fQ_fine:sk4.all (fun p=>decide (Dd (fQ p.1 p.2)∧0≤fQ p.1 p.2))=true:=by decide+kernel
theorem fQ_ok{s:Str}{k:Int}(h:s∈four)(hk:k∈k4):Dd (fQ s k)∧0≤fQ s k:=of_decide_eq_true (List.all_eq_true.mp fQ_fine _ (sk_of h hk))
theorem k4_of{k:Nat}(h:k<4):(k:Int)+1∈k4:=by
 have:∀k∈List.range 4,(k:Int)+1∈k4:=by decide
 exact this k (List.mem_range.mpr h)
theorem den_div{q:Rat}{D:Nat}(hD:D≠0):q.den∣D↔∃n:Int,q=mkRat n D:=by
 constructor
 ·rintro ⟨e,rfl⟩
  exact⟨q.num*e,by rw [Rat.mkRat_mul_right (fun h=>hD (by rw [h,Nat.mul_zero])),Rat.mkRat_self]⟩
 ·rintro ⟨n,rfl⟩
  rw [Rat.den_mkRat,if_neg hD]
  exact Nat.div_dvd_of_dvd (Nat.gcd_dvd_left _ _)
theorem Dd.le{q:Rat}(h:Dd q):q.den≤420:=Nat.le_of_dvd (by decide) h
theorem Dd.add{p q:Rat}(hp:Dd p)(hq:Dd q):Dd (p+q):=by
 obtain⟨n,rfl⟩:=(den_div (by decide)).mp hp
 obtain⟨m,rfl⟩:=(den_div (by decide)).mp hq
 exact(den_div (by decide)).mpr ⟨n+m,by rw [Rat.mkRat_add_mkRat _ _ (by decide) (by decide),←Int.add_mul,Rat.mkRat_mul_right (by decide)]⟩
theorem Dd.mul{p:Rat}{n:Int}(hp:Dd p):Dd (p*n):=by
 obtain⟨m,rfl⟩:=(den_div (by decide)).mp hp
 exact(den_div (by decide)).mpr ⟨m*n,by rw [←Rat.mkRat_one n,Rat.mkRat_mul_mkRat,Nat.mul_one]⟩
theorem addV_Dd{s:Str}(hs:s∈four){w:Int}:∀{k:Nat} {q:Rat},k≤4→Dd q→Dd (xC s w k q)
 |0,_,_,h=>h
 |k+1,_,hk,h=>(addV_Dd hs (Nat.le_of_succ_le hk) h).add (Dd.mul (fQ_ok hs (k4_of hk)).1)
theorem lt64{a b:Nat}(h:a≤420)(h2:b≤420):a*b<2^64:=Nat.lt_of_le_of_lt (Nat.mul_le_mul h h2) (by decide)
theorem thInT_ok(w:World)(d:Nat):FlOk w (d+17) (thInT w):=fun t x b fr K z env v A E h ev q ha ok=>by
 obtain⟨⟨e,rfl⟩,s,p,c,q0,u,zs,⟨hst,rfl,⟨hp,hc⟩,hs,hl,hq,hv⟩,k⟩:=h
 obtain⟨rfl,rfl⟩:=Prod.mk.inj e
 rw [th_t]
 refine yA (P:=P9 w) (N:=30) (b0:=5) (kp:=thK2) (P9_ok w d) (it_set w _ _ _) ⟨rfl,all_N (fun ys hy=> ?_) _⟩ q ev ha ok
 have e:(ys.map SV.sint).length=zs.length:=(List.length_map ..).trans hy.length_eq
 rw [hst]
 refine⟨ys.map SV.sint,fun k st=>st=thI 7 s p c (xC s u.2 k q0) (zk (!zy w) u) k∧k≤zs.length,fun k st=> ?_,(th_an ..).mpr ⟨trivial,⟨hp,hc,rfl,trivial⟩,rfl,Nat.zero_le _⟩,fun k y st hk ⟨e1,_⟩=> ?_,fun k st hk ⟨e1,h1⟩=> ?_⟩
 ·show some (ys[k]?.map SV.sint)=some (ys.map SV.sint)[k]?
  rw [List.getElem?_map]
 ·have hk':k<zs.length:=e▸(List.getElem?_eq_some_iff.mp hk).1
  obtain⟨y,_,rfl⟩:=List.mem_map.mp (List.mem_of_getElem? hk)
  have m:=k4_of (Nat.lt_of_lt_of_le hk' hl)
  have D:=(fQ_ok hs m).1
  rw [e1,←th_t]
  exact(th_in ..).mpr ⟨s,⟨rfl,hs,m⟩,⟨Nat.lt_of_le_of_lt D.le (by decide),(Rat.num_intCast _).symm▸hv⟩,lt64 (addV_Dd hs (Nat.le_trans (Nat.le_of_lt hk') hl) hq).le (Dd.mul D).le,trivial,⟨hp,hc,rfl,trivial⟩,rfl,hk'⟩
 ·obtain rfl:=Nat.le_antisymm (e▸List.getElem?_eq_none_iff.mp hk) h1
  exact e1▸k
noncomputable def setB(w:World)(x:SV)(st:St):Tr:=orE (setB1 w x st) (setB2 w x st)
noncomputable def lenA(x:SV)(st:St):Tr:=orE (lenB x st) (lenS x st)
noncomputable def SetOk(w:World)(x:SV)(l:List Int):Prop:=∀st (K:KV),K (.vset (!zy w) l) st→zg (setB w x st) fun t=>t K
noncomputable def LenOk(x:SV):Prop:=∃p,∀st (K:KV),K (nu p) st→zg (lenA x st) fun t=>t K
noncomputable def P10(w:World):Prims:=({P9 w with call:=zp (onB true "set" (softV (fun l=>.vset (!zy w) l) (b1 (setB w))))<|zp (onB false "len" (softV nu (b1 lenA))) (P9 w).call}:Prims).fl 204 (thInT w)
theorem b1_or{w:World}{d:Nat}{v:Value}{f g:SV→St→Tr}(hf:BTOk w d v (b1 f))(hg:BTOk w d v (b1 g)):BTOk w d v (b1 fun x st=>orE (f x st) (g x st)):=yx fun x t K z v e k q=>(yi e).elim (fun e=>hf [x] [] t K z _ _ e k (.cons q .nil) .nil) fun e=>hg [x] [] t K z _ _ e k (.cons q .nil) .nil
theorem P10_ok(w:World)(d:Nat):Sound w (P10 w) (d+17):=Sound.fl (P:={P9 w with call:=zp (onB true "set" (softV (fun l=>.vset (!zy w) l) (b1 (setB w))))<|zp (onB false "len" (softV nu (b1 lenA))) (P9 w).call}) {P9_ok w d with
 call:=CallOk.or (BTOk.on (ty:=true) (BTOk.softV (b1_or setB1_ok setB2_ok)))<|CallOk.or (BTOk.on (ty:=false) (BTOk.softV (b1_or lenB_ok lenS_ok))) (P9_ok w d).call} (thInT_ok w d)
noncomputable def thQ(q:Rat)(s:Str)(vs:List (List Int×Int))(l:List Int):Rat:=vs.foldl (fun q v=>xC s v.2 (zP l v.1).length q) q
noncomputable def zq(vs:List (List Int×Int)):Prop:=∀v∈vs,smallL v.1∧v.2.natAbs<2^64∧0≤v.2∧v.1.length≤3
theorem inter_le{l ys:List Int}(h:smallL l):(zP l ys).length≤l.length:=by
 have e:zP l ys=(range6.filter fun a=>l.elem a).filter fun a=>ys.elem a:=by
  rw [List.filter_filter]
  exact List.filter_congr fun a _=>Bool.and_comm ..
 rw [e,←h.self]
 exact List.length_filter_le ..
theorem xS{l ys:List Int}(h:smallL l):(zP l ys).length≤4:=Nat.le_trans (inter_le h) h.four
theorem thQ_Dd{s:Str}(hs:s∈four){l:List Int}(hl:smallL l){vs:List (List Int×Int)}{q:Rat}(h:Dd q):Dd (thQ q s vs l):=by
 induction vs generalizing q with
 |nil=>exact h
 |cons v vs ih=>exact ih (addV_Dd hs (xS hl) h)
theorem th_out(w:World)(K:KF)(J:St→Prop)(s:Str)(p c:SV)(q:Rat)(v:List Int×Int):vc w (P10 w) 40 (.A xO.1 (zk (!zy w) v) thFr (thS 6 s p c q) fun st1=>vc w (P10 w) 40 (.Ss xO.2.2 thFr st1 (yZ K (zK 5 5 thK1 J))))=
 ∃l,(∀K':KV,K' (.vset (!zy w) l) (thI 6 s p c q (zk (!zy w) v) 0)→zg (b1 (setB w) [c] [] (thI 6 s p c q (zk (!zy w) v) 0)) fun t=>t K')∧((!zy w)=(!zy w)∧(!zy w)=(!zy w))∧thInT w thIn.1 (.vset (!zy w) (zP l v.1)) thIn.2.2 thFr (thI 6 s p c q (zk (!zy w) v) 0) fun _ st=>zK 5 5 thK1 J st:=by kernel_rfl
theorem th_an1(J:St→Prop)(s:Str)(p c:SV)(q:Rat):zK 5 5 thK1 J ⟨[(4,.ns "frame" (thL s p c q))],5⟩=(True∧(p.pure=true∧c.pure=true∧True)∧J (thS 6 s p c q)):=by kernel_rfl
theorem th_an2(J:St→Prop)(s:Str)(p c u:SV)(q:Rat)(k:Int):zK 5 5 thK1 J (thI 7 s p c q u k)=(True∧(p.pure=true∧c.pure=true∧True)∧J (thS 6 s p c q)):=by kernel_rfl
noncomputable def thOutT(w:World):FlT:=fun t x b fr st K=>((t,b)=(xO.1,xO.2.2)∧fr=thFr)∧∃s c q vs l,(st=⟨[(4,.ns "frame" (thL s x c q))],5⟩∧x=zw (!zy w) vs∧zq vs∧smallL l∧SetOk w c l∧c.pure=true∧s∈four∧Dd q)∧K .next (thS 6 s x c (thQ q s vs l))
theorem it_prof(w:World)(led:Bool)(vs:List (List Int×Int))(st:St):(P10 w).iter (zw led vs) st=some fun K=>K (.vlist (vs.map (zk led))) st:=by kernel_rfl
theorem th_t1:xO.1= .Name (zT xO.1).1 (zT xO.1).2:=by kernel_rfl
theorem foldl_take{α β:Type}{f:β→α→β}{b:β}{l:List α}{k:Nat}{a:α}(h:l[k]? =some a):(l.take (k+1)).foldl f b=f ((l.take k).foldl f b) a:=by
 rw [List.take_add_one,h,List.foldl_append];rfl
theorem map_get?{α β:Type}{f:α→β}{l:List α}{k:Nat}{b:β}(h:(l.map f)[k]? =some b):∃a,l[k]? =some a∧f a=b:=Option.map_eq_some_iff.mp (List.getElem?_map .. ▸h)
theorem thOutT_ok(w:World)(d:Nat):FlOk w (d+17) (thOutT w):=fun t x b fr K z env v A E h ev q ha ok=>by
 obtain⟨⟨e,rfl⟩,s,c,q0,vs,l,⟨hst,rfl,hv,hl,hc,hp,hs,hq⟩,k⟩:=h
 obtain⟨rfl,rfl⟩:=Prod.mk.inj e
 rw [th_t1]
 refine yA (P:=P10 w) (N:=40) (b0:=5) (kp:=thK1) (P10_ok w d) (it_prof w _ _ _) ?_ q ev ha ok
 rw [hst]
 refine⟨vs.map (zk (!zy w)),fun k st=>st=thS 6 s (zw (!zy w) vs) c (thQ q0 s (vs.take k) l),fun _ _=>rfl,(th_an1 ..).mpr ⟨trivial,⟨rfl,hp,trivial⟩,rfl⟩,fun k y st hk e1=> ?_,fun n st hk e1=> ?_⟩
 ·obtain⟨u,hu,rfl⟩:=map_get? hk
  have e2:thQ q0 s (vs.take (k+1)) l=xC s u.2 (zP l u.1).length (thQ q0 s (vs.take k) l):=foldl_take hu
  rw [e1,←th_t1]
  exact(th_out ..).mpr ⟨l,hc _,⟨rfl,rfl⟩,⟨rfl,rfl⟩,_,_,_,_,u,_,⟨rfl,rfl,⟨rfl,hp⟩,hs,xS hl,thQ_Dd hs hl hq,(hv u (List.mem_of_getElem? hu)).2.1⟩,(th_an2 ..).mpr ⟨trivial,⟨rfl,hp,trivial⟩,e2▸rfl⟩⟩
 ·rw [e1,List.take_of_length_le ((List.length_map (zk (!zy w)))▸List.getElem?_eq_none_iff.mp hk)]
  exact k
noncomputable def P11(w:World):Prims:=(P10 w).fl 202 (thOutT w)
theorem P11_ok(w:World)(d:Nat):Sound w (P11 w) (d+17):=(P10_ok w d).fl (thOutT_ok w d)
theorem th_fn(w:World)(K:SV→Prop)(s:Str)(p c:SV):yh w (P11 w) 60 271 0 [.str s,p,c] [] st0 (yb K)=∃n,(∀K':KV,K' (nu n) ⟨[(4,.ns "frame" [("scorefct_id",.str s),("profile",p),("committee",c)])],5⟩→zg (b1 lenA [c] [] ⟨[(4,.ns "frame" [("scorefct_id",.str s),("profile",p),("committee",c)])],5⟩) fun t=>t K')∧s∈four∧
 (1:Int)≠0∧(1:Int).natAbs<2^64∧((xO.1,xO.2.2)=(xO.1,xO.2.2)∧thFr=thFr)∧∃s' c' q vs l,((⟨[(4,.ns "frame" (thL s p c (Rat.divInt 0 1)))],5⟩:St)=⟨[(4,.ns "frame" (thL s' p c' q))],5⟩∧p=zw (!zy w) vs∧zq vs∧smallL l∧SetOk w c' l∧c'.pure=true∧s'∈four∧Dd q)∧K (.frac (thQ q s' vs l)):=by kernel_rfl
noncomputable def yR(w:World)(c:SV)(l:List Int):Prop:=smallL l∧SetOk w c l∧LenOk c∧c.pure=true
noncomputable def b3(f:SV→SV→SV→St→Tr):BT:=fun xs ks st=>match xs with
 | []=>none
 |x::xs=>b2 (f x) xs ks st
theorem b3_ok{w:World}{d:Nat}{b:Value}{f}(h:∀x y a t K z v u r,f x y a z.st=some t→t K→VRel z.y x v→VRel z.y y u→VRel z.y a r→W w d VRel K z (call b [v,u,r] [])):BTOk w d b (b3 f):=fun xs ks t K z vs kvs e k q qk=>by
 rcases xs with _|⟨x,_|⟨y,_|⟨a,_|⟨_,_⟩⟩⟩⟩
 ·exact(zu rfl e).elim
 ·exact(zu rfl e).elim
 ·exact(zu rfl e).elim
 ·rcases ks with _|⟨_,_⟩
  ·obtain⟨v,u,r,rfl,q1,q2,q3⟩:=q.three
   obtain rfl:=qk.nil_inv
   exact h x y a t K z v u r e k q1 q2 q3
  ·exact(zu rfl e).elim
 ·exact(zu rfl e).elim
noncomputable def thT(w:World)(x p c:SV)(st:St):Tr:=(asS x).bind fun s=>some fun K=>∃vs l,(p=zw (!zy w) vs∧zq vs∧yR w c l∧s∈four)∧K (.frac (thQ 0 s vs l)) st
theorem thT_ok(w:World)(d:Nat):BTOk w (d+18) (.ref 271) (b3 (thT w)):=b3_ok fun x p c t K z v u r e k q1 q2 q3=>by
 obtain⟨s,e1,e⟩:=zz e
 cases e
 obtain⟨vs,l,⟨rfl,hv,⟨h1,h2,⟨n,h3⟩,h4⟩,hs⟩,k⟩:=k
 refine zM (k:=0) (n:=60) (P11_ok w d) (show zt [.str s,zw (!zy w) vs,c]=true from(Bool.and_eq_true _ _).mpr ⟨rfl,(Bool.and_eq_true _ _).mpr ⟨rfl,(Bool.and_eq_true _ _).mpr ⟨h4,rfl⟩⟩⟩) rfl ((th_fn ..).mpr ⟨n,h3 _,hs,by decide,by decide,⟨rfl,rfl⟩,s,c,0,vs,l,⟨by rfl,rfl,hv,h1,h2,h4,hs,?_⟩,k⟩) (.cons (asS_ok e1▸q1) (.cons q2 (.cons q3 .nil))) .nil
 exact⟨420,by decide⟩
noncomputable def P12(w:World):Prims:={P9 w with call:=zp (onA 271 (b3 (thT w))) (P9 w).call}
theorem P12_ok(w:World)(d:Nat):Sound w (P12 w) (d+18):={P9_ok w (d+1)with call:=CallOk.or (BTOk.at (thT_ok w d)) (P9_ok w (d+1)).call}
noncomputable def isOp1(p:Operator)(op:Operator):Bool:=p.ctorIdx==op.ctorIdx
noncomputable def binT:Operator→SV→SV→St→Tr:=fun op x y st=>zj (isAdd op) ((asT x).bind fun a=>(asT y).bind fun b=>zj ((nsIx st).isSome&&Nat.ble (a.length+b.length) sizeLine) (some fun K=>K (.tup (a++b)) st))
noncomputable def repL(n:Nat)(xs:List SV):List SV:=match n with
 |0=> []
 |n+1=>xs++repL n xs
noncomputable def isMul(op:Operator):Bool:=match op with
 | .Mult=>true
 |_=>false
noncomputable def mulL:Operator→SV→SV→St→Tr:=fun op x y st=>zj (isMul op) ((zZ st x).bind fun xs=>(w9 y).bind fun k=>zj ((nsIx st).isSome&&(Nat.ble k.toNat 64&&(Nat.ble xs.length 64&&decide (0≤k)))) (some fun K=>K (.ref st.nx) (st.push (.list (repL k.toNat xs)))))
noncomputable def setN:List SV→Nat→SV→List SV
 | [],_,_=> []
 |_::r,0,y=>y::r
 |x::r,k+1,y=>x::setN r k y
noncomputable def setIL:Unit→SV→SV→SV→St→Tr:=fun _ x i y st=>(xx x).bind fun a=>(zA st a).bind fun xs=>(asN i).bind fun p=>zj (Nat.ble xs.length 1000000) ((place p.2 xs.length).bind fun k=>zj (decide (0≤p.2)) (some fun K=>K .non (st.put a (.list (setN xs k y)))))
noncomputable def setIQ:Unit→SV→SV→SV→St→Tr:=fun _ x i y st=>(xx x).bind fun a=>(zA st a).bind fun xs=>(asN i).bind fun p=>some fun K=>∃k:Nat,(p.2=(k:Int)∧k<xs.length∧xs.length≤1000000)∧K .non (st.put a (.list (setN xs k y)))
noncomputable def subQ:Unit→SV→SV→St→Tr:=fun _ x i st=>(zZ st x).bind fun xs=>(asN i).bind fun p=>some fun K=>∃(k:Nat) (q:Rat),(p.2=(k:Int)∧xs[k]? =some (.frac q)∧xs.length≤1000000)∧K (.frac q) st
noncomputable def asSlcV(x:SV):Option (SV×SV):=match x with
 | .slc l u=>some (l,u)
 |_=>none
noncomputable def isNon(x:SV):Bool:=match x with
 | .non=>true
 |_=>false
noncomputable def pickS(xs:List SV)(l u:SV):Option (List SV):=match isNon l with
 |true=>(w9 u).bind fun b=>zj (decide (0≤b)) (some (xs.take b.toNat))
 |false=>zj (isNon u) ((w9 l).bind fun a=>match a with
  | .ofNat a=>some (xs.drop a)
  | .negSucc j=>some (xs.drop (xs.length-(j+1))))
noncomputable def slcL:Unit→SV→SV→St→Tr:=fun _ x i st=>(asSlcV i).bind fun p=>(zZ st x).bind fun xs=>(pickS xs p.1 p.2).bind fun ys=>some fun K=>(xs.length≤1000000∧zt ys=true)∧K (.vlist ys) st
noncomputable def lstN(n:Str):Option String:=match n=="append",n=="insert",n=="pop" with
 |true,_,_=>some "list.append"
 |_,true,_=>some "list.insert"
 |_,_,true=>some "list.pop"
 |_,_,_=>none
noncomputable def methL(x:SV)(n:Str)(st:St):Option (SV×List SV):=(xx x).bind fun a=>(zA st a).bind fun _=>(lstN n).bind fun f=>some (.top (.builtin f),[x])
noncomputable def appT(x y:SV)(st:St):Tr:=(xx x).bind fun a=>(zA st a).bind fun xs=>some fun K=>xs.length≤1000000∧K .non (st.put a (.list (xs++[y])))
noncomputable def insT(x i y:SV)(st:St):Tr:=(xx x).bind fun a=>(zA st a).bind fun xs=>(w9 i).bind fun k=>zj (k==0) (some fun K=>xs.length≤1000000∧K .non (st.put a (.list (y::xs))))
noncomputable def unL:List SV→Option (SV×List SV)
 | []=>none
 |x::r=>some (x,r)
noncomputable def popT(x i:SV)(st:St):Tr:=(xx x).bind fun a=>(zA st a).bind fun xs=>(w9 i).bind fun k=>zj (k==0) ((unL xs).bind fun p=>some fun K=>p.2.length≤1000000∧K p.1 (st.put a (.list p.2)))
section
variable {w:World}{d:Nat}{z:Z}{K:KV}{A:Around}{E:Value→Shared→Prop}{x:SV}{v:Value}{y:Y}{xs ys:List SV}{vs:List Value}
theorem asRef_ok{i:Nat}(h:xx x=some i):x= .ref i:=by
 induction x using SV.casesOn with
 |ref=>cases h;rfl
 |_=>exact(zu rfl h).elim
theorem asSlcV_ok{p}(h:asSlcV x=some p):x= .slc p.1 p.2:=by
 induction x using SV.casesOn with
 |slc=>cases h;rfl
 |_=>exact(zu rfl h).elim
theorem isNon_ok(h:isNon x=true):x= .non:=by
 induction x using SV.casesOn with
 |non=>rfl
 |_=>exact Bool.noConfusion h
theorem binT_ok:OpOk w d (h2 x6 binT):=zH yO fun op x y t K z v u e k q q2 A E _ ok=>by
 obtain⟨e0,e⟩:=zv e
 obtain⟨a,e1,e⟩:=zz e
 obtain⟨b,e2,e⟩:=zz e
 obtain⟨hl,e⟩:=zv e
 cases e
 have r:=ok.rep
 rcases(xQ e1▸q).inv with⟨g1,q1⟩
 rcases(xQ e2▸q2).inv with⟨g2,q3⟩
 obtain⟨ht,hl⟩:=zx hl
 obtain⟨fi,fc,ff,t⟩:=nsIx_of ht
 obtain⟨m,news,F⟩:=r.frame t
 have tup:∀{a:Addr} {vs:Array Value} {k:Nat},z.G a=some (tupO vs k)→IsTup z.s.heap a vs.toList.toArray:=fun g=>⟨_,r.sub _ _ g,rfl,_,by rw [Array.toArray_toList];rfl⟩
 induction op using Operator.casesOn with
 |Add=>
  refine add_tuples F.F F.N (tup g1) (tup g2) (fun h=> ?_) (fun _ h=> ?_) (fun _ _ h' F' N'=> ?_) (by rw [←q1.length,←q3.length];exact Nat.le_of_ble_eq_true hl)
  ·rw [List.eq_nil_of_length_eq_zero (q1.length.trans (congrArg _ h))]at k
   exact r.end (.tup g2 q3) k
  ·rw [List.eq_nil_of_length_eq_zero (q3.length.trans (congrArg _ h)),List.append_nil]at k
   exact r.end (.tup g1 q1) k
  ·have S:=F.back h' F' fun p hp=>N' p (List.mem_cons_of_mem _ hp)
   have S2:=S.addG ⟨zh _,r.free.gn,r.free.out⟩ (N' _ List.mem_cons_self).1
   exact .mk S2 (.tup (vs:=(_++_:List Value).toArray) (k:=0) (if_pos rfl) (S2.vals (q1.append q3))) k
 |_=>exact Bool.noConfusion e0
theorem repL_eq{vs:Array Value}(h:VRels y xs vs.toList):∀k:Nat,VRels y (repL k xs) (List.foldl (fun x1 x2=>x1++x2) (#[]:Array Value) (List.replicate k vs)).toList:=by
 have:∀(k:Nat) (ys:List SV) (us:Array Value),VRels y ys us.toList→VRels y (ys++repL k xs) (List.foldl (fun x1 x2=>x1++x2) us (List.replicate k vs)).toList:=by
  intro k
  induction k with
  |zero=>exact fun ys us q=>(List.append_nil ys).symm▸q
  |succ k ih=>
   intro ys us q
   show VRels y (ys++(xs++repL k xs)) (List.foldl (fun x1 x2=>x1++x2) (us++vs) (List.replicate k vs)).toList
   rw [←List.append_assoc]
   exact ih _ _ (Array.toList_append.symm▸q.append h)
 exact fun k=>this k [] #[] .nil
theorem mulL_ok:OpOk w d (h2 x6 mulL):=zH yO fun op x y t K z v u e k q q2 A E _ ok=>by
 obtain⟨e0,e⟩:=zv e
 obtain⟨xs,e1,e⟩:=zz e
 obtain⟨n,e2,e⟩:=zz e
 obtain⟨hl,e⟩:=zv e
 cases e
 have r:=ok.rep
 rcases zY e1 r q with @⟨a,vs,c,o1,q1⟩
 obtain⟨tk,rfl⟩:=yz e2 q2
 obtain⟨ht,hl⟩:=zx hl
 obtain⟨g1,hl⟩:=zx hl
 obtain⟨g2,g3⟩:=zx hl
 have g1:=Nat.le_of_ble_eq_true g1
 have g2:=Nat.le_of_ble_eq_true g2
 have g3:=of_decide_eq_true g3
 obtain⟨fi,fc,ff,t⟩:=nsIx_of ht
 obtain⟨m,news,F⟩:=r.frame t
 have hs:=q1.size
 induction op using Operator.casesOn with
 |Mult=>
  refine mul_list F.F F.N o1 (by omega) (by omega) (Nat.le_trans (Nat.mul_le_mul (hs▸g2) g1) (by decide)) fun h' F' N'=> ?_
  have S:=F.back h' F' fun p hp=>N' p (List.mem_cons_of_mem _ hp)
  have S2:=S.addO (so:= .list (repL n.toNat xs)) ⟨zh _,r.free.gn,r.free.out⟩ (N' _ List.mem_cons_self).1 (.list (k:=0) ?_)
  ·exact .mk S2 (.refE (Nat.lt_succ_self _) zQ) k
  ·by_cases he:vs.isEmpty=true
   ·rw [if_pos he]
    obtain rfl:xs=[]:=List.length_eq_zero_iff.mp (hs.trans (Array.isEmpty_iff_size_eq_zero.mp he))
    have:∀k,repL k []=[]:=fun k=>by
     induction k with
     |zero=>rfl
     |succ k ih=>exact ih
    rw [this];exact .nil
   ·rw [if_neg he];exact repL_eq q1 _
 |_=>exact Bool.noConfusion e0
theorem VRels.setN{x:SV}{u:Value}(hy:VRel y x u){xs:List SV}{vs:List Value}(h:VRels y xs vs):∀k,VRels y (Mine.setN xs k x) (vs.set k u):=by
 induction h with
 |nil=>exact fun _=>.nil
 |cons a h ih=>
  intro k
  cases k with
  |zero=>exact .cons hy h
  |succ k=>exact .cons a (ih k)
theorem setItem_any{l:Addr}{items:Array Value}{n:Nat}{k:Int}{t:Tok}{v:Value}{s:Shared}{Q:Unit→Shared→Prop}(ho:s.heap.get? l=some (listOf items n))(h0:0≤k)(hfit:k<2^63)(hn:k<items.size)
  (hQ:∀h' n',h'.get? l=some (listOf (items.setIfInBounds k.toNat v) n')→(∀b,b≠l→h'.get? b=s.heap.get? b)→Q () {s with heap:=h'}):
  wpAny (model pw w) A (setItem (.ref l) (.int k t) v) Q E s:=by
 have hl:=zU ho
 unfold setItem
 refine wpAny_holding (wpAny_bind (wpAny_sequenceKey hl.typeIs (by decide) ?_))
 refine wpAny_bind (wpAny_callSpecial?_slot (name:=Str.ofString "__setitem__") hl.typeIs slot_list_setitem
  (wpAny_call_entry slot_list_setitem hl.typeIs entry_list_setitem ?_ (args_list_setitem _ _ _)))
 show wpAny _ _ (Builtin.List.listSubscript? (.int k t)>>=_) _ _ s
 refine wpAny_bind (wpAny_listSubscript_int (fitsIndex_of h0 hfit) ?_)
 clear hfit
 obtain⟨k,rfl⟩:=Int.eq_ofNat_of_zero_le h0
 have hn:k<items.size:=by omega
 show wpAny _ _ ((seqItemAt l k>>=fun r=>pure (r.map (k,·)))>>=_) _ _ s
 refine wpAny_bind (wpAny_bind (wpAny_seqItemAt ho rfl (wpAny_pure ?_)))
 rw [Array.getElem?_eq_getElem hn]
 show wpAny _ _ (setSeqItemAt l k v>>=_) _ _ s
 exact wpAny_bind (wpAny_setSeqItemAt ho rfl (wpAny_pure ⟨.none,rfl,wpAny_pure (hQ _ _ (Heap.get?_update_self (h:=s.heap) (fun o=>o.mapSeq (·.setIfInBounds k v)) ho rfl) (Heap.SameBut.update ..).2)⟩))
theorem setI_core{a k:Nat}{i:SV}{p:Bool×Int}{u:Value}{x':SV}{v':Value}(e1:xx x=some a)(e2:zA z.st a=some xs)(e3:asN i=some p)(hp:p.2=(k:Int))(hk:k<xs.length)(hl:xs.length≤1000000)(q:VRel z.y x v)(q2:VRel z.y i u)(q3:VRel z.y x' v')(kk:K .non (z.st.put a (.list (setN xs k x')))):OpW w d K z .setI [v,u,v']:=fun A E _ ok=>by
 obtain⟨b,m⟩:=p
 obtain rfl:m=(k:Int):=hp
 obtain⟨t,rfl⟩:=zL e3 q2
 obtain⟨_,rfl⟩:=(asRef_ok e1▸q).inv
 have r:=ok.rep
 have h:=zB e2
 obtain⟨vs,c,h1,h2⟩:=r.list_of h
 have hs:=h2.size
 refine setItem_any h1 (Int.natCast_nonneg k) (by omega) (by omega) fun h' n' h3 h4=> ?_
 exact .u (r.turn (s:={z.s with heap:=h'}) h h4 h3 (.list (by rw [Array.toList_setIfInBounds];exact h2.setN q3 k)) .heap) kk
theorem setIL_ok:OpOk w d (h3 oSeI setIL):=h3_ok (c:=fun _=>.setI) oSeI_ok fun _ x i y t K z v u r e k q q2 q3=>by
 obtain⟨a,e1,e⟩:=zz e
 obtain⟨xs,e2,e⟩:=zz e
 obtain⟨p,e3,e⟩:=zz e
 obtain⟨hl,e⟩:=zv e
 obtain⟨j,e4,e⟩:=zz e
 obtain⟨h0,e⟩:=zv e
 cases e
 obtain⟨hj,hk⟩:=place_ok e4
 have h0:=of_decide_eq_true h0
 exact setI_core e1 e2 e3 (hk.elim (·.2) fun h=>(Int.not_lt.mpr h0 h.1).elim) hj (Nat.le_of_ble_eq_true hl) q q2 q3 k
theorem setIQ_ok:OpOk w d (h3 oSeI setIQ):=h3_ok (c:=fun _=>.setI) oSeI_ok fun _ x i y t K z v u r e k q q2 q3=>by
 obtain⟨a,e1,e⟩:=zz e
 obtain⟨xs,e2,e⟩:=zz e
 obtain⟨p,e3,e⟩:=zz e
 cases e
 obtain⟨j,⟨hp,hj,hl⟩,k⟩:=k
 exact setI_core e1 e2 e3 hp hj hl q q2 q3 k
theorem subQ_ok:OpOk w d (h2 wd subQ):=zH (c:=fun _=>.sub) xV fun _ x i t K z v u e k q q2=>by
 obtain⟨xs,e1,e⟩:=zz e
 obtain⟨p,e2,e⟩:=zz e
 cases e
 obtain⟨j,f,⟨hp,hj,hl⟩,k⟩:=k
 obtain⟨b,m⟩:=p
 obtain rfl:m=(j:Int):=hp
 obtain⟨tk,rfl⟩:=zL e2 q2
 refine⟨fun A E _ ok=> ?_,fun ok=> ?_⟩
 ·rcases zY e1 ok.rep q with⟨o,q3⟩
  obtain⟨u,h4,h5⟩:=q3.at hj
  rw [Array.getElem?_toList]at h4
  have:j<xs.length:=(List.getElem?_eq_some_iff.mp hj).1
  exact wpAny_getItem_list (zU o) (Int.natCast_nonneg j) (by omega) h4 (ok.rep.end h5 k)
 ·rcases zY e1 ok.rep q with⟨o,_⟩
  exact⟨"list","list.__getitem__",(zU o).typeIs,slot_list_getitem.lookup⟩
end
section
variable {w:World}{d:Nat}{z:Z}{K:KV}{A:Around}{E:Value→Shared→Prop}{x:SV}{v:Value}{y:Y}{xs ys:List SV}{vs:List Value}
theorem VRels.drop{xs:List SV}{vs:List Value}(h:VRels y xs vs):∀k,VRels y (xs.drop k) (vs.drop k):=by
 induction h with
 |nil=>exact fun k=>by cases k<;>exact .nil
 |cons a h ih=>
  intro k
  cases k with
  |zero=>exact .cons a h
  |succ k=>exact ih k
theorem VRels.take{xs:List SV}{vs:List Value}(h:VRels y xs vs):∀k,VRels y (xs.take k) (vs.take k):=by
 induction h with
 |nil=>exact fun k=>by cases k<;>exact .nil
 |cons a h ih=>
  intro k
  cases k with
  |zero=>exact .nil
  |succ k=>exact .cons a (ih k)
theorem pickS_ok{vs:Array Value}{l u:SV}{a b:Value}(h:VRels y xs vs.toList)(e:pickS xs l u=some ys)(q1:VRel y l a)(q2:VRel y u b):∃lo hi,IsPart a lo∧IsPart b hi∧VRels y ys (slicePick vs lo hi none).toList:=by
 unfold pickS at e
 cases c:isNon l with
 |true=>
  rw [c]at e
  obtain rfl:a= .none:=(isNon_ok c▸q1).inv
  obtain⟨k,e1,e⟩:=zz e
  obtain⟨e2,e⟩:=zv e
  cases e
  obtain⟨t,rfl⟩:=yz e1 q2
  obtain⟨n,rfl⟩:=Int.eq_ofNat_of_zero_le (of_decide_eq_true e2)
  exact⟨_,_,.none,.int _ _,by rw [slicePick_upto'];exact h.take n⟩
 |false=>
  rw [c]at e
  obtain⟨e0,e⟩:=zv e
  obtain rfl:b= .none:=(isNon_ok e0▸q2).inv
  obtain⟨k,e1,e⟩:=zz e
  obtain⟨t,rfl⟩:=yz e1 q1
  rcases k with n|j<;>cases e
  ·exact⟨_,_,.int _ _,.none,by show VRels y _ (slicePick vs (some (n:Int)) none none).toList;rw [slicePick_from'];exact h.drop n⟩
  ·exact⟨_,_,.int _ _,.none,by
    show VRels y _ (slicePick vs (some (-((j+1:Nat):Int))) none none).toList
    rw [slicePick_last vs (j+1) (Nat.succ_pos j),h.size];exact h.drop _⟩
theorem slc_core{xs ys:List SV}{l u:SV}{i:Value}(e2:zZ z.st x=some xs)(hy:∀a b,VRel z.y l a→VRel z.y u b→∀vs:Array Value,VRels z.y xs vs.toList→∃lo hi,IsPart a lo∧IsPart b hi∧VRels z.y ys (slicePick vs lo hi none).toList)(hl:xs.length≤1000000)(hp:zt ys=true)(q:VRel z.y x v)(q2:VRel z.y (.slc l u) i)(k:K (.vlist ys) z.st):OpW w d K z .sub [v,i]:=by
 refine⟨fun A E _ ok=> ?_,fun ok=> ?_⟩
 ·have r:=ok.rep
  rcases zY e2 r q with @⟨a,vs,c,o,q3⟩
  rcases q2.inv with⟨g,q4,q5⟩
  obtain⟨lo,hi,p1,p2,hv⟩:=hy _ _ q4 q5 _ q3
  refine wpAny_getItem_list_slice (zU o) ⟨_,r.sub _ _ g,rfl,rfl⟩ p1 p2 .none (fun q=>nomatch q) ?_ (Nat.le_trans (q3.size▸hl) (sizeLine_eq▸by decide))
  have S:=r.pushG (listOf (slicePick vs lo hi none) 0) rfl
  exact .mk S (.vlist hp (k:=0) (if_pos rfl) (S.vals hv)) k
 ·rcases zY e2 ok.rep q with⟨o,_⟩
  exact⟨"list","list.__getitem__",(zU o).typeIs,slot_list_getitem.lookup⟩
theorem slcL_ok:OpOk w d (h2 wd slcL):=zH (c:=fun _=>.sub) xV fun _ x i t K z v u e k q q2=>by
 obtain⟨p,e1,e⟩:=zz e
 obtain⟨xs,e2,e⟩:=zz e
 obtain⟨ys,e3,e⟩:=zz e
 cases e
 exact slc_core e2 (fun a b q4 q5 vs h=>pickS_ok h e3 q4 q5) k.1.1 k.1.2 q (asSlcV_ok e1▸q2) k.2
theorem wa{a:Nat}(e1:xx x=some a)(e2:zA z.st a=some xs)(r:Rep z)(q:VRel z.y x v):∃vs c,v= .ref (z.ρ a)∧Has z.st a (.list xs)∧z.At (z.ρ a) (listOf vs c)∧VRels z.y xs vs.toList:=
 let⟨_,e⟩:=(asRef_ok e1▸q).inv
 let⟨vs,c,h1,h2⟩:=r.list_of (zB e2)
 ⟨vs,c,e,zB e2,h1,h2⟩
theorem methL_ok{n:Str}{f:SV}{xs:List SV}{pl:Sem Bool}{Q:Value×List Value→Shared→Prop}(h:methL x n z.st=some (f,xs))(ok:Ok w z)(q:VRel z.y x v)(hQ:∀fv vs,VRel z.y f fv→VRels z.y xs vs→Q (fv,vs) z.s):wpAny (model pw w) A (getMethod v n pl) Q E z.s:=by
 obtain⟨a,e1,h⟩:=zz h
 obtain⟨us,e2,h⟩:=zz h
 obtain⟨g,e3,h⟩:=zz h
 cases h
 have hQ:=hQ _ _ .top (.cons q .nil)
 obtain⟨vs,c,rfl,_,h1,_⟩:=wa e1 e2 ok.rep q
 have hn:z.s.heap.NoDictAt (.ref (z.ρ a)):=⟨_,h1,rfl⟩
 unfold lstN at e3
 by_cases n1:n="append"
 ·subst n1;cases e3;exact getMethod_list_of F.slot_list_append F.type_list_append (zU h1) hn hQ
 ·by_cases n2:n="insert"
  ·subst n2;cases e3;exact getMethod_list_of F.slot_list_insert F.type_list_insert (zU h1) hn hQ
  ·by_cases n3:n="pop"
   ·subst n3;cases e3;exact getMethod_list_of F.slot_list_pop F.type_list_pop (zU h1) hn hQ
   ·rw [beq_false_of_ne n1,beq_false_of_ne n2,beq_false_of_ne n3]at e3;exact(zu rfl e3).elim
theorem slM{n:Nat}(h:n≤1000000):n≤sizeLine:=Nat.le_trans h (sizeLine_eq▸by decide)
theorem appT_ok:BTOk w d (.builtin "list.append") (b2 appT):=b2_ok fun x y t K z v u e k q q2 A E _ ok=>by
 obtain⟨a,e1,e⟩:=zz e
 obtain⟨xs,e2,e⟩:=zz e
 cases e
 obtain⟨vs,c,rfl,h,_,_⟩:=wa e1 e2 ok.rep q
 exact app_ok ok.rep h (slM k.1) q2 fun s S=>.mk S .non k.2
theorem upd_list(r:Rep z){a:Nat}{vs:Array Value}{c:Nat}(h:Has z.st a (.list xs))(ho:z.At (z.ρ a) (listOf vs c))(f:Array Value→Array Value)(hr:VRels z.y ys (f vs).toList):Step z ⟨z.G,z.ρ,z.st.put a (.list ys),{z.s with heap:=z.s.heap.update (z.ρ a) (Obj.mapSeq f)}⟩:=
 r.turn (s:={z.s with heap:=z.s.heap.update (z.ρ a) (Obj.mapSeq f)}) h (fun b n=>(Heap.SameBut.update (h:=z.s.heap) (a:=z.ρ a) (f:=Obj.mapSeq f)).2 b n) (Heap.get?_update_self (h:=z.s.heap) (fun o=>o.mapSeq f) ho rfl) (.list hr) .heap
theorem insT_ok:BTOk w d (.builtin "list.insert") (b3 insT):=b3_ok fun x i y t K z v u r e k q q2 q3 A E _ ok=>by
 obtain⟨a,e1,e⟩:=zz e
 obtain⟨xs,e2,e⟩:=zz e
 obtain⟨n,e3,e⟩:=zz e
 obtain⟨e4,e⟩:=zv e
 cases e
 obtain rfl:=eq_of_beq e4
 obtain⟨tk,rfl⟩:=yz e3 q2
 obtain⟨vs,c,rfl,h,ho,hr⟩:=wa e1 e2 ok.rep q
 refine call_meets F.slot_list_insert ⟨_,ho,rfl⟩ F.entry_list_insert (F.args_list_insert_3 _ _ _) (AutoListH.list_insert_list_int_val_1 _ vs c _ _ r (by decide) (hr.size▸slM k.1)) ⟨ho,?_⟩
 refine .mk (upd_list ok.rep h ho _ (ys:=y::xs) ?_) .non k.2
 show VRels z.y (y::xs) ((vs.extract 0 (min (0:Int).toNat vs.size)).push r++vs.extract (min (0:Int).toNat vs.size)).toList
 rw [show min (0:Int).toNat vs.size=0 from Nat.zero_min _]
 rw [Array.toList_append,Array.toList_push,Array.extract_zero,Array.extract_eq_self_of_le (Nat.le_refl _)]
 exact .cons q3 hr
theorem popT_ok:BTOk w d (.builtin "list.pop") (b2 popT):=b2_ok fun x i t K z v u e k q q2 A E _ ok=>by
 obtain⟨a,e1,e⟩:=zz e
 obtain⟨xs,e2,e⟩:=zz e
 obtain⟨n,e3,e⟩:=zz e
 obtain⟨e4,e⟩:=zv e
 obtain rfl:=eq_of_beq e4
 obtain⟨tk,rfl⟩:=yz e3 q2
 obtain⟨vs,c,rfl,h,ho,hr⟩:=wa e1 e2 ok.rep q
 cases xs with
 |nil=>exact(zu rfl e).elim
 |cons x xs=>
  cases e
  obtain⟨u,us,hu,q3,hr'⟩:=hr.cons_inv
  obtain rfl:vs=(u::us).toArray:=Array.toList_inj.mp hu
  have hlen:xs.length=us.length:=hr'.length
  refine call_meets F.slot_list_pop ⟨_,ho,rfl⟩ F.entry_list_pop (F.args_list_pop_2 _ _) (MeetsSeq.list_pop_at _ _ c _ _ 0 u (by decide) (seq_place (by rw [List.size_toArray];exact Nat.succ_pos _) (.inl ⟨Int.le_refl _,rfl⟩)) (by rfl) (by
   rw [List.size_toArray];exact Nat.le_trans (Nat.succ_le_succ (hlen▸k.1)) (sizeLine_eq▸by decide))) ⟨ho,?_⟩
  have S:=upd_list ok.rep h ho (fun xs=>xs.eraseIdxIfInBounds 0) (ys:=xs) (by simpa [Array.eraseIdxIfInBounds]using hr')
  exact .mk S (S.val q3) k.2
end
noncomputable def P13(w:World):Prims:={P12 w with
 op:=yw (h2 x6 binT)<|yw (h2 x6 mulL)<|yw (h3 oSeI setIL)<|yw (h2 wd slcL) (P12 w).op
 meth:=fun x n st=>orE (methL x n st) ((P12 w).meth x n st)
 call:=zp (onB false "list.append" (b2 appT))<|zp (onB false "list.insert" (b3 insT))<|zp (onB false "list.pop" (b2 popT)) (P12 w).call}
theorem P13_ok(w:World)(d:Nat):Sound w (P13 w) (d+18):={P12_ok w d with
 op:=binT_ok.or<|mulL_ok.or<|setIL_ok.or<|slcL_ok.or (P12_ok w d).op
 meth:=fun x n f xs z v pl A E Q h ok q hQ=>(yi h).elim (fun h=>methL_ok h ok q hQ) fun h=>(P12_ok w d).meth x n f xs z v pl A E Q h ok q hQ
 call:=CallOk.or (BTOk.on (ty:=false) appT_ok)<|CallOk.or (BTOk.on (ty:=false) insT_ok)<|CallOk.or (BTOk.on (ty:=false) popT_ok) (P12_ok w d).call}
noncomputable def subsL:Nat→List Int→List (List Int)
 |0,_=> [[]]
 |_+1,[]=> []
 |k+1,x::r=>(subsL k r).map (x:: ·)++subsL (k+1) r
noncomputable def zo(k:Int):List (List Int):=subsL k.toNat [0,1,2,3,4,5]
noncomputable def zE(l:List Int):SV:= .tup (l.map SV.int)
theorem co_all(w:World)(K:SV→Prop):k4.map (fun k=>yh w (P13 w) 200 50 0 [xy,.int k] [] st0 (yb K))=k4.map fun k=>K (.vlist ((zo k).map zE)):=by kernel_rfl
noncomputable def coT(x y:SV)(st:St):Tr:=(w9 y).bind fun k=>some fun K=>(x=xy∧k∈k4)∧K (.vlist ((zo k).map zE)) st
theorem num_k{k:Int}{x:SV}{v:Value}{y:Y}(h:w9 x=some k)(q:VRel y x v):VRel y (.int k) v:=let⟨_,e⟩:=yz h q;e▸ .num
theorem coT_ok(w:World)(d:Nat):BTOk w (d+19) (.ref 50) (b2 coT):=b2_ok fun x y t K z v u e k q1 q2=>by
 obtain⟨n,e1,e⟩:=zz e
 cases e
 obtain⟨⟨rfl,hk⟩,k⟩:=k
 exact zM (k:=0) (n:=200) (P13_ok w d) rfl rfl ((zl (co_all w _) hk).mpr k) (.cons q1 (.cons (num_k e1 q2) .nil)) .nil
noncomputable def P14(w:World):Prims:={P13 w with call:=zp (onA 50 (b2 coT)) (P13 w).call}
theorem yn(w:World)(d:Nat):Sound w (P14 w) (d+19):={P13_ok w (d+1)with call:=CallOk.or (BTOk.at (coT_ok w d)) (P13_ok w (d+1)).call}
noncomputable abbrev xK:Expr×Expr×List Stmt:=forP (sAt (tp 29).2.1 2)
noncomputable def bfFr:FrS:=⟨4,[],(tp 29).2.2,.ref 448⟩
noncomputable def bfL(i:Nat)(s:Str)(p:SV)(k:Int)(q:SV):List (Str×SV):=[("scorefct_id",.str s),("profile",p),("committeesize",.int k),("resolute",.bool false),("max_num_of_committees",.non),("opt_committees",.ref i),("opt_thiele_score",q)]
noncomputable def bfS(s:Str)(p:SV)(k:Int)(q:SV)(L:List SV):St:=⟨[(4,.ns "part" (bfL 6 s p k q)),(6,.list L)],8⟩
noncomputable def bfK:Kp:=⟨["scorefct_id","profile","committeesize","resolute","max_num_of_committees","opt_committees","opt_thiele_score"],["opt_committees"],["profile"]⟩
noncomputable def bestB(S:SV→List SV→St)(sc:Rat)(x:SV)(L:List SV)(q':SV)(q:Rat)(X:Prop)(J:St→Prop):Prop:=
 (sc.den<2^64∧q.den<2^64)∧(decide (q<sc)=true→(zt [x]=true∧True)∧X∧J (S (.frac sc) [x]))∧(decide (q<sc)=false→True∧(decide (sc=q)=true→L.length≤1000000∧(zt (L++[x])=true∧True)∧X∧J (S q' (L++[x])))∧(decide (sc=q)=false→(zt L=true∧True)∧X∧J (S q' L)))
noncomputable def Bst(f:List Int→Rat)(D L:List (List Int))(q':SV)(q:Rat):Prop:=(D=[]∧L=[]∧q'= .int (-1)∧q=((-1:Int):Rat))∨(q'= .frac q∧L=D.filter (fun l=>decide (f l=q))∧(∀l∈D,f l≤q)∧∃l∈D,f l=q)
noncomputable def BI(S:SV→List SV→St)(f:List Int→Rat)(C:List (List Int))(k:Nat)(st:St):Prop:=∃q' q L,st=S q' (L.map zE)∧Bst f (C.take k) L q' q
noncomputable def y8(f:List Int→Rat)(C:List (List Int)):List (List Int):=C.filter fun l=>decide (∀l'∈C,f l'≤f l)
section
variable {S:SV→List SV→St}{f:List Int→Rat}{C D L:List (List Int)}{k:Nat}{l:List Int}{q':SV}{q:Rat}{X:Prop}
theorem fil_snoc{p:List Int→Bool}{b:Bool}(h:p l=b):(D++[l]).filter p=D.filter p++List.filter (fun _=>b) [l]:=by
 rw [List.filter_append,←h];rfl
theorem all_snoc{p:List Int→Prop}(h:∀x∈D,p x)(hl:p l):∀x∈D++[l],p x:=fun x m=>(List.mem_append.mp m).elim (h x) fun m=>List.mem_singleton.mp m▸hl
theorem lt_le{a b c:Rat}(h:a<b)(k:b≤c):a<c:=Rat.not_le.mp fun n=>Rat.not_lt.mpr (Rat.le_trans k n) h
theorem neg_lt{r:Rat}(h:0≤r):((-1:Int):Rat)<r:=lt_le (by decide) h
theorem bst_gt(h:Bst f D L q' q)(g:q<f l):Bst f (D++[l]) [l] (.frac (f l)) (f l):=by
 refine .inr ⟨rfl,?_,?_,l,List.mem_append_right _ (.head _),rfl⟩
 ·rw [fil_snoc (decide_eq_true rfl),List.filter_eq_nil_iff.mpr fun x m e=> ?_]
  ·rfl
  ·rcases h with⟨rfl,_⟩|⟨_,_,h,_⟩
   ·cases m
   ·exact Rat.not_lt.mpr (h x m) (of_decide_eq_true e▸g)
 ·refine all_snoc (fun x m=> ?_) Rat.le_refl
  rcases h with⟨rfl,_⟩|⟨_,_,h,_⟩
  ·cases m
  ·exact Rat.le_trans (h x m) (Rat.le_of_lt g)
theorem bst_eq(h:Bst f D L q' q)(h0:0≤f l)(g:f l=q):Bst f (D++[l]) (L++[l]) q' q:=by
 rcases h with⟨_,_,_,rfl⟩|⟨a,b,c,x,m,e⟩
 ·exact(Rat.lt_irrefl (g▸neg_lt h0)).elim
 ·exact .inr ⟨a,by rw [fil_snoc (decide_eq_true g),b];rfl,all_snoc c (g▸Rat.le_refl),x,List.mem_append_left _ m,e⟩
theorem bst_lt(h:Bst f D L q' q)(h0:0≤f l)(g:¬q<f l)(n:f l≠q):Bst f (D++[l]) L q' q:=by
 rcases h with⟨_,_,_,rfl⟩|⟨a,b,c,x,m,e⟩
 ·exact(g (neg_lt h0)).elim
 ·exact .inr ⟨a,by rw [fil_snoc (decide_eq_false n),b];exact(List.append_nil _).symm,all_snoc c (Rat.not_lt.mp g),x,List.mem_append_left _ m,e⟩
theorem take_snoc{α:Type}{C:List α}{l:α}(h:C[k]? =some l):C.take (k+1)=C.take k++[l]:=by rw [List.take_add_one,h];rfl
theorem yE(L:List (List Int)):zt (L.map zE)=true:=ze (f:=zE) (fun l=>ze (f:=SV.int) (fun _=>rfl) l) L
theorem bestB_of(hb:Bst f (C.take k) L q' q)(hk:C[k]? =some l)(hf:∀x∈C,0≤f x∧Dd (f x))(h64:C.length≤64)(x:X):bestB S (f l) (zE l) (L.map zE) q' q X (BI S f C (k+1)):=by
 obtain⟨f0,fd⟩:=hf l (List.mem_of_getElem? hk)
 have e:=take_snoc hk
 have hd:q.den≤420∧L.length≤64:=by
  rcases hb with⟨_,rfl,_,rfl⟩|⟨_,rfl,_,m,hm,rfl⟩
  ·exact⟨by decide,Nat.zero_le _⟩
  ·exact⟨(hf m (List.mem_of_mem_take hm)).2.le,Nat.le_trans (List.length_filter_le ..) (Nat.le_trans (List.length_take .. ▸Nat.min_le_right ..) h64)⟩
 have on:∀{L':List (List Int)} {p' p},Bst f (C.take k++[l]) L' p' p→BI S f C (k+1) (S p' (L'.map zE)):=fun h=>⟨_,_,_,rfl,e▸h⟩
 have s64:∀{n:Nat},n≤420→n<2^64:=fun h=>Nat.lt_of_le_of_lt h (by decide)
 refine⟨⟨s64 fd.le,s64 hd.1⟩,fun g=>⟨⟨yE [l],trivial⟩,x,on (L':=[l]) (bst_gt hb (of_decide_eq_true g))⟩,fun g=>⟨trivial,fun g2=>⟨?_,?_,x,?_⟩,fun g2=>⟨⟨yE L,trivial⟩,x,on (bst_lt hb f0 (of_decide_eq_false g) (of_decide_eq_false g2))⟩⟩⟩
 ·exact Nat.le_trans (Nat.le_of_eq (List.length_map ..)) (Nat.le_trans hd.2 (by decide))
 ·exact⟨pureL_app (yE L) (yE [l]),trivial⟩
 ·have:=on (bst_eq hb f0 (of_decide_eq_true g2))
  rw [List.map_append]at this
  exact this
theorem BI.start:BI S f C 0 (S (.int (-1)) []):=⟨_,_,[],rfl,.inl ⟨rfl,rfl,rfl,rfl⟩⟩
theorem BI.fin{st:St}(h:BI S f C k st)(hk:C[k]? =none)(hC:C≠[]):∃q,st=S (.frac q) ((y8 f C).map zE):=by
 obtain⟨q',q,L,rfl,h⟩:=h
 rw [List.take_of_length_le (List.getElem?_eq_none_iff.mp hk)]at h
 rcases h with⟨h,_⟩|⟨rfl,rfl,h,m,hm,e⟩
 ·exact(hC h).elim
 ·refine⟨q,congrArg (fun L:List (List Int)=>S (.frac q) (L.map zE)) (List.filter_congr fun x hx=>decide_eq_decide.mpr ⟨fun e' y hy=>e'▸h y hy,fun a=>Rat.le_antisymm (h x hx) (e▸a m hm)⟩)⟩
end
theorem addV_pos{s:Str}(hs:s∈four){w:Int}(hw:0≤w):∀{k:Nat} {q:Rat},k≤4→0≤q→0≤xC s w k q
 |0,_,_,h=>h
 |k+1,_,hk,h=>Rat.add_nonneg (addV_pos hs hw (Nat.le_of_succ_le hk) h) (Rat.mul_nonneg (fQ_ok hs (k4_of hk)).2 (Rat.intCast_nonneg.mpr hw))
theorem thQ_pos{s:Str}(hs:s∈four){l:List Int}(hl:smallL l){vs:List (List Int×Int)}{q:Rat}(hv:zq vs)(h:0≤q):0≤thQ q s vs l:=by
 induction vs generalizing q with
 |nil=>exact h
 |cons v vs ih=>exact ih (fun x m=>hv x (.tail _ m)) (addV_pos hs (hv v (.head _)).2.2.1 (xS hl) h)
noncomputable def okC(l:List Int):Bool:=xD.elem l&&(l.all range6.elem&&(Nat.ble l.length 4&&(Nat.ble 1 l.length&&(yl (l.map fun x=>(false,x))==l))))
theorem coms_all:(k4.all fun k=>(zo k).all okC&&(Nat.ble (zo k).length 60&&Nat.ble 1 (zo k).length))=true:=by decide+kernel
theorem coms_ok{k:Int}(h:k∈k4):(∀l∈zo k,okC l=true)∧(zo k).length≤60∧zo k≠[]:=by
 obtain⟨a,b⟩:=zx (List.all_eq_true.mp coms_all k h)
 obtain⟨b,c⟩:=zx b
 exact⟨List.all_eq_true.mp a,Nat.le_of_ble_eq_true b,List.ne_nil_of_length_pos (Nat.le_of_ble_eq_true c)⟩
structure OkC(l:List Int):Prop where
 small:smallL l
 six:∀x∈l,x∈range6
 four:l.length≤4
 one:1≤l.length
 ins:yl (l.map fun x=>(false,x))=l
theorem we{l:List Int}(h:okC l=true):OkC l:=by
 obtain⟨a,h⟩:=zx h
 obtain⟨b,h⟩:=zx h
 obtain⟨c,h⟩:=zx h
 obtain⟨d,e⟩:=zx h
 exact⟨List.elem_iff.mp a,fun x m=>List.elem_iff.mp (List.all_eq_true.mp b x m),Nat.le_of_ble_eq_true c,Nat.le_of_ble_eq_true d,eq_of_beq e⟩
theorem yS(l:List Int):zJ asN (l.map SV.int)=some (l.map fun x=>(false,x)):=by
 have:=(mapO_nu (l.map fun x=>(false,x))).1
 rw [List.map_map]at this
 exact this
section
variable {w:World}{l:List Int}
theorem OkC.comm(h:OkC l):yR w (zE l) l:=by
 refine⟨h.small,fun st K k=> ?_,⟨(false,l.length),fun st K k=> ?_⟩,ze (fun _=>rfl) l⟩
 ·have:setB w (zE l) st=some fun K=>(∀p∈l.map fun x=>(false,x),p.2∈range6)∧(l.map fun x=>(false,x)).length≤4∧K (.vset (!zy w) (yl (l.map fun x=>(false,x)))) st:=by
   show orE ((zJ asN (l.map SV.int)).bind _) _=_
   rw [yS];rfl
  rw [this]
  refine⟨fun p m=> ?_,(List.length_map (fun x=>(false,x))).symm▸h.four,h.ins.symm▸k⟩
  obtain⟨x,m',rfl⟩:=List.mem_map.mp m
  exact h.six x m'
 ·show zg (orE (zj (Nat.ble (l.map SV.int).length 1000000) _) _) _
  rw [List.length_map,Nat.ble_eq_true_of_le (Nat.le_trans h.four (by decide))]
  exact k
theorem OkC.candT(h:OkC l){c:CsK}(ht:xF true l.length c.n=true)(hm:∀s m,c= .num s m→∀x∈l,x<m)(st:St)(K:KV)(k:K (.vset (!zy w) l) st):zg (candT w (zE l) c st) fun t=>t K:=by
 show zg ((zJ asN (l.map SV.int)).bind _) _
 rw [yS]
 show zg (zj (Nat.ble (l.map fun x=>(false,x)).length 4&&xF true (l.map fun x=>(false,x)).length c.n) _) _
 rw [List.length_map,ht,Nat.ble_eq_true_of_le h.four]
 refine⟨fun p m=> ?_,?_,?_⟩
 ·obtain⟨x,m',rfl⟩:=List.mem_map.mp m
  exact⟨h.six x m',fun s m e=>hm s m e x m'⟩
 ·rw [h.ins]
 ·rw [h.ins];exact k
theorem OkC.cand(h:OkC l)(h3:l.length≤3):yL w (zE l)∧candR (zE l)=l:=by
 have e:candR (zE l)=l:=by
  show yl ((zJ asN (l.map SV.int)).getD [])=l
  rw [yS];exact h.ins
 have t:∀n∈List.range 4,1≤n→xF true n 0=true:=by decide
 exact⟨fun st K k=>h.candT (c:= .no) (t _ (List.mem_range.mpr (Nat.lt_succ_of_le h3)) h.one) (fun _ _ e=>CsK.noConfusion e) st K ((congrArg (fun l=>K (.vset (!zy w) l) st) e).mp k),e⟩
end
noncomputable def frzP(f:SV→St→Tr)(x:SV)(st:St):Tr:=(xx x).bind fun i=>(zA st i).bind fun xs=>some fun K=>zt xs=true∧zg (f (.vlist xs) (st.drop i)) fun t=>t K
noncomputable def dctE(e:Expr):Option (KV→Prop):=match e with
 | .Dict ks vs _=>zj (ks.isEmpty&&vs.isEmpty) (some fun _=>True)
 |_=>none
noncomputable def dctS(e:Expr)(_:FrS)(st:St):Option (KV→Prop):=(dctE e).bind fun _=>some fun K=>∀v,K (.top v) st
noncomputable def bfS0(s:Str)(p:SV)(k:Int):St:=⟨[(5,.list []),(4,.ns "frame" (bfL 5 s p k (.int (-1))))],6⟩
theorem bf_0(w:World)(K:KF)(J:St→Prop)(s:Str)(p c:SV)(k:Int)(L:List SV):vc w (P14 w) 60 (.A xK.1 c bfFr (bfS s p k (.int (-1)) L) fun st1=>vc w (P14 w) 60 (.Ss xK.2.2 bfFr st1 (yZ K (zK 5 6 bfK J))))=∃vs l,(p=zw (!zy w) vs∧zq vs∧yR w c l∧s∈four)∧bestB (bfS s p k) (thQ 0 s vs l) c L (.int (-1)) ((-1:Int):Rat) (p.pure=true∧True) J:=by kernel_rfl
theorem bf_1(w:World)(K:KF)(J:St→Prop)(s:Str)(p c:SV)(k:Int)(q:Rat)(L:List SV):vc w (P14 w) 60 (.A xK.1 c bfFr (bfS s p k (.frac q) L) fun st1=>vc w (P14 w) 60 (.Ss xK.2.2 bfFr st1 (yZ K (zK 5 6 bfK J))))=∃vs l,(p=zw (!zy w) vs∧zq vs∧yR w c l∧s∈four)∧bestB (bfS s p k) (thQ 0 s vs l) c L (.frac q) q (p.pure=true∧True) J:=by kernel_rfl
theorem bf_an(J:St→Prop)(s:Str)(p:SV)(k:Int):zK 5 6 bfK J (bfS0 s p k)=((zt []=true∧True)∧(p.pure=true∧True)∧J (bfS s p k (.int (-1)) [])):=by kernel_rfl
theorem bf_t:xK.1= .Name (zT xK.1).1 (zT xK.1).2:=by kernel_rfl
theorem Bst.frac{f:List Int→Rat}{D L:List (List Int)}{q':SV}{q:Rat}(h:Bst f D L q' q):(q'= .int (-1)∧q=((-1:Int):Rat))∨q'= .frac q:=h.imp (fun h=>h.2.2) fun h=>h.1
section
variable {w:World}{d:Nat}
theorem frzP_ok{b:Value}{f:SV→St→Tr}(h:BTOk w d b (b1 f)):BTOk w d b (b1 (frzP f)):=yx fun x t K z v e k q A E ha ok=>by
 obtain⟨i,e1,e⟩:=zz e
 obtain⟨xs,e2,e⟩:=zz e
 cases e
 obtain⟨hp,k⟩:=k
 obtain⟨t,e3,k⟩:=zr k
 obtain⟨vs,c,rfl,hh,ho,hr⟩:=wa e1 e2 ok.rep q
 have S:=ok.rep.freeze hh ho
 exact wm (h [.vlist xs] [] t K ⟨xm z.G (z.ρ i) _,z.ρ,z.st.drop i,z.s⟩ [_] [] e3 k (.cons (.vlist hp (vs:=vs) (k:=c) (if_pos rfl) (S.vals hr)) .nil) .nil A E ha (S.ok ok)) fun _ _ q=>.from S q
theorem dctE_ok{e:Expr}{t}(h:dctE e=some t):∃p,e= .Dict [] [] p:=by
 induction e using Expr.casesOn with
 |Dict ks vs p=>
  obtain⟨h,_⟩:=zv h
  obtain⟨a,b⟩:=zx h
  exact⟨p,List.isEmpty_iff.mp a▸List.isEmpty_iff.mp b▸rfl⟩
 |_=>exact(zu rfl h).elim
theorem dctS_ok{e:Expr}{fr:FrS}{z:Z}{t K env}(h:dctS e fr z.st=some t)(k:t K):W w d VRel K z (eval e env):=fun A E ha ok=>by
 obtain⟨_,e1,h⟩:=zz h
 cases h
 obtain⟨p,rfl⟩:=dctE_ok e1
 refine wpAny_Dict_empty ?_
 exact .mk (z':=z.hp _) (ok.rep.grow (fun _ _ e=>Heap.get?_push_of_some _ e) .heap) .top (k _)
theorem best_it{C:List (List Int)}{st:St}:(P14 w).iter (.vlist (C.map zE)) st=some fun K=>K (.vlist (C.map zE)) st:=by kernel_rfl
end
noncomputable def bestT(w:World)(F:Expr×Expr×List Stmt)(fr:FrS)(S0:SV→Int→SV→St)(S:SV→Int→SV→List SV→St)(s:Str):FlT:=fun t x b fr' st K=>((t,b)=(F.1,F.2.2)∧fr'=fr)∧∃p k vs q0 C,(st=S0 p k q0∧x= .vlist (C.map zE)∧p=zw (!zy w) vs∧zq vs∧(∀l∈C,okC l=true)∧C.length≤60∧C≠[])∧∀q,K .next (S p k (.frac q) ((y8 (thQ 0 s vs) C).map zE))
theorem bestT_ok{w:World}{d:Nat}{F:Expr×Expr×List Stmt}{fr:FrS}{S0:SV→Int→SV→St}{S:SV→Int→SV→List SV→St}{s:Str}{b0 n0:Nat}{kp:Kp}{X:SV→Prop}(hs:s∈four)(ht:F.1= .Name (zT F.1).1 (zT F.1).2)(hn:∀p k q,(S0 p k q).nx=n0)(hX:∀vs,X (zw (!zy w) vs))
  (t0:∀(K:KF) (J:St→Prop) vs' c k L,vc w (P14 w) 60 (.A F.1 c fr (S (zw (!zy w) vs') k (.int (-1)) L) fun st1=>vc w (P14 w) 60 (.Ss F.2.2 fr st1 (yZ K (zK b0 n0 kp J))))=∃vs l,(zw (!zy w) vs'=zw (!zy w) vs∧zq vs∧yR w c l∧s∈four)∧bestB (S (zw (!zy w) vs') k) (thQ 0 s vs l) c L (.int (-1)) ((-1:Int):Rat) (X (zw (!zy w) vs')) J)
  (t1:∀(K:KF) (J:St→Prop) vs' c k q L,vc w (P14 w) 60 (.A F.1 c fr (S (zw (!zy w) vs') k (.frac q) L) fun st1=>vc w (P14 w) 60 (.Ss F.2.2 fr st1 (yZ K (zK b0 n0 kp J))))=∃vs l,(zw (!zy w) vs'=zw (!zy w) vs∧zq vs∧yR w c l∧s∈four)∧bestB (S (zw (!zy w) vs') k) (thQ 0 s vs l) c L (.frac q) q (X (zw (!zy w) vs')) J)
  (an:∀(J:St→Prop) vs k q,J (S (zw (!zy w) vs) k (.int (-1)) [])→zK b0 n0 kp J (S0 (zw (!zy w) vs) k q)):FlOk w (d+19) (bestT w F fr S0 S s):=fun t x b fr' K z env v A E h ev q ha ok=>by
 obtain⟨⟨e,rfl⟩,p,k,vs,q0,C,⟨hst,rfl,rfl,hv,hC,h60,hne⟩,kk⟩:=h
 obtain⟨rfl,rfl⟩:=Prod.mk.inj e
 have hf:∀l∈C,0≤thQ 0 s vs l∧Dd (thQ 0 s vs l):=fun l m=>⟨thQ_pos hs (we (hC l m)).small hv Rat.le_refl,thQ_Dd hs (we (hC l m)).small ⟨420,by decide⟩⟩
 rw [ht]
 refine yA (P:=P14 w) (N:=60) (b0:=b0) (kp:=kp) (yn w d) best_it ?_ q ev ha ok
 rw [hst]
 dsimp only
 rw [hn]
 refine⟨C.map zE,BI (S (zw (!zy w) vs) k) (thQ 0 s vs) C,fun _ _=>rfl,an _ _ _ _ BI.start,⟨fun n y st hk ⟨q',q,L,e1,hb⟩=> ?_,fun n st hk h=> ?_⟩⟩
 ·obtain⟨l,hl,rfl⟩:=map_get? hk
  have B:=bestB_of (S:=S (zw (!zy w) vs) k) (X:=X (zw (!zy w) vs)) hb hl hf (Nat.le_trans h60 (by decide)) (hX vs)
  have c:=(we (hC l (List.mem_of_getElem? hl))).comm (w:=w)
  rw [e1,←ht]
  rcases hb.frac with⟨rfl,rfl⟩|rfl
  ·rw [t0];exact⟨vs,l,⟨rfl,hv,c,hs⟩,B⟩
  ·rw [t1];exact⟨vs,l,⟨rfl,hv,c,hs⟩,B⟩
 ·obtain⟨q,e⟩:=h.fin (Option.map_eq_none_iff.mp (List.getElem?_map .. ▸hk)) hne
  exact e▸kk q
noncomputable def bfT(w:World):FlT:=fun t x b fr st K=>∃s,s∈four∧bestT w xK bfFr (fun p k _=>bfS0 s p k) (bfS s) s t x b fr st K
theorem bfT1_ok{w:World}{d:Nat}{s:Str}(hs:s∈four):FlOk w (d+19) (bestT w xK bfFr (fun p k _=>bfS0 s p k) (bfS s) s):=
 bestT_ok (F:=xK) (fr:=bfFr) (S0:=fun p k _=>bfS0 s p k) (S:=bfS s) (s:=s) (b0:=5) (n0:=6) (kp:=bfK) (X:=fun p=>p.pure=true∧True) hs bf_t (fun _ _ _=>rfl) (fun _=>⟨rfl,trivial⟩) (fun K J vs=>bf_0 w K J s _) (fun K J vs=>bf_1 w K J s _) (fun J vs k q j=>(bf_an ..).mpr ⟨⟨rfl,trivial⟩,⟨rfl,trivial⟩,j⟩)
theorem bfT_ok{w:World}{d:Nat}:FlOk w (d+19) (bfT w):=fun t x b fr K z env v A E ⟨s,hs,h⟩=>bfT1_ok hs t x b fr K z env v A E h
section
variable {w:World}{d:Nat}
noncomputable def P15(w:World):Prims:=({P14 w with
 call:=zp (onA 37 (b1 (frzP (scH w)))) (P14 w).call
 special:=fun e fr st=>orE (dctS e fr st) ((P14 w).special e fr st)}:Prims)
theorem P15_ok(w:World)(d:Nat):Sound w (P15 w) (d+19):={yn w d with
 call:=CallOk.or (BTOk.at (frzP_ok scH_ok)) (yn w d).call
 special:=fun e fr t K z env he k ev=>(yi he).elim (fun he=>dctS_ok he k) fun he=>(yn w d).special e fr t K z env he k ev}
end
noncomputable def bfN(s:Str)(p:SV)(k:Int):List (Str×SV):=[("scorefct_id",.str s),("profile",p),("committeesize",.int k),("resolute",.bool false),("max_num_of_committees",.non)]
theorem bf_fn(w:World)(K:SV→Prop)(s:Str)(vs:List (List Int×Int))(k:Int):yh w ((P15 w).fl 482 (bfT w)) 60 449 0 [] (bfN s (zw (!zy w) vs) k) st0 (yb K)=((xy=xy∧k∈k4)∧bfT w xK.1 (.vlist ((zo k).map zE)) xK.2.2 bfFr (bfS0 s (zw (!zy w) vs) k) fun _ st=>zg (zA st 6) fun L=>zt L=true∧L.length<64∧(∀u∈L,yL w u)∧∀zs,zs.Perm (L.map (yK w))→∀v,K (.tup [.vlist zs,.top v])):=by kernel_rfl
noncomputable def k3:List Int:=[1,2,3]
theorem coms_three:(k3.all fun k=>k4.elem k&&(zo k).all fun l=>Nat.ble l.length 3)=true:=by decide+kernel
noncomputable def bfH(w:World):BT:=fun xs ks st=>some fun K=>∃s vs k,(xs=[]∧ks=bfN s (zw (!zy w) vs) k∧zq vs∧s∈four∧k∈k3)∧∀zs v,zs.Perm ((y8 (thQ 0 s vs) (zo k)).map (.vset (!zy w)))→K (.tup [.vlist zs,.top v]) st
theorem cands_of{w:World}{L:List (List Int)}(h:∀l∈L,okC l=true∧l.length≤3):(∀u∈L.map zE,yL w u)∧(L.map zE).map (yK w)=L.map (.vset (!zy w)):=by
 refine⟨fun u m=>let⟨l,m,e⟩:=List.mem_map.mp m;e▸((we (h l m).1).cand (h l m).2).1,?_⟩
 rw [List.map_map]
 exact List.map_congr_left fun l m=>congrArg _ ((we (h l m).1).cand (w:=w) (h l m).2).2
theorem y2{f:List Int→Rat}{C:List (List Int)}:(∀l∈y8 f C,l∈C)∧(y8 f C).length≤C.length:=⟨fun _ m=>(List.mem_filter.mp m).1,List.length_filter_le ..⟩
theorem bfH_ok(w:World)(d:Nat):BTOk w (d+20) (.ref 449) (bfH w):=fun xs ks t K z vs kvs e k q qk=>by
 cases e
 obtain⟨s,us,n,⟨rfl,rfl,hv,hs,hk⟩,kk⟩:=k
 obtain⟨h4,h3⟩:=zx (List.all_eq_true.mp coms_three n hk)
 have h4:=List.elem_iff.mp h4
 obtain⟨c1,c2,c3⟩:=coms_ok h4
 obtain⟨b1,b2⟩:=y2 (f:=thQ 0 s us) (C:=zo n)
 obtain⟨e1,e2⟩:=cands_of (w:=w) (L:=y8 (thQ 0 s us) (zo n)) fun l m=>⟨c1 l (b1 l m),Nat.le_of_ble_eq_true (List.all_eq_true.mp h3 l (b1 l m))⟩
 refine zM (k:=0) (n:=60) (Sound.fl (P15_ok w d) bfT_ok) rfl rfl ((bf_fn ..).mpr ⟨⟨rfl,h4⟩,s,hs,⟨rfl,rfl⟩,_,n,us,.non,zo n,⟨rfl,rfl,rfl,hv,c1,c2,c3⟩,fun q=>⟨yE _,?_,e1,fun zs hz v=>kk zs v (e2▸hz)⟩⟩) q qk
 exact Nat.lt_of_le_of_lt (Nat.le_trans (Nat.le_of_eq (List.length_map ..)) (Nat.le_trans b2 c2)) (by decide)
noncomputable def ctA:SV:= .tup [.str "gurobi",.str "pulp-highs",.str "pulp-cbc",.str "branch-and-bound",.str "brute-force"]
noncomputable def ctB:SV:= .tup [.bool false,.bool true]
noncomputable def ctT:List (Str×Nat×SV):=[("_THIELE_ALGORITHMS",335,ctA),("_RESOLUTE_VALUES_FOR_OPTIMIZATION_BASED_RULES",336,ctB)]
theorem ct_fine(P:Params):ctT.map (fun c=>(findIn (KH P) (.ref 362) c.1,specialIn (KH P) (.ref c.2.1) "__get__",copiedNames.contains c.1))=ctT.map fun c=>(some (some (.ref c.2.1)),some none,false):=by kernel_rfl
noncomputable def pickT(n:Str):List (Str×Nat×SV)→Option (Str×Nat×SV)
 | []=>none
 |c::r=>match n==c.1 with
  |true=>some c
  |false=>pickT n r
noncomputable def attC:Str→SV→St→Tr:=fun n x st=>(insA x n st).bind fun C=>zj (Nat.beq C 362) ((pickT n ctT).bind fun c=>some fun K=>K c.2.2 st)
noncomputable def asB(x:SV):Option Bool:=match x with
 | .tf _ b=>some b
 |_=>none
noncomputable def cmpInB:CmpOp→SV→SV→St→Tr:=fun op x y st=>(inOp op).bind fun b=>zj (!b) ((asB x).bind fun p=>(asT y).bind fun xs=>(zJ asB xs).bind fun l=>some fun K=>K (.bool !(l.any fun q=>q==p)) st)
noncomputable def lenPf(w:World)(x:SV)(st:St):Tr:=(insA x "__len__" st).bind fun C=>zj (Nat.beq C 666) (some fun K=>∃vs,(x=zw (!zy w) vs∧vs.length≤4)∧K (.sint vs.length) st)
section
variable {w:World}{d:Nat}{z:Z}{K:KV}{A:Around}{E:Value→Shared→Prop}{x:SV}{v:Value}{y:Y}
theorem pickT_ok{n:Str}{c}{l}(h:pickT n l=some c):c∈l∧n=c.1:=by
 induction l with
 |nil=>cases h
 |cons p r ih=>
  unfold pickT at h
  cases e:n==p.1 with
  |false=>rw [e]at h;exact(ih h).imp (.tail _) id
  |true=>rw [e]at h;cases h;exact⟨.head _,eq_of_beq e⟩
theorem ct_tup(hG:∀b o,hK w b=some o→y.G b=some o):∀c∈ctT,VRel y c.2.2 (.ref c.2.1):=List.forall_mem_cons.mpr
 ⟨.tup (vs:=[(.str "gurobi" 589),(.str "pulp-highs" 590),(.str "pulp-cbc" 591),(.str "branch-and-bound" 592),(.str "brute-force" 593)].toArray) (k:=0) (hG 335 _ (by kernel_rfl)) (.cons .str (.cons .str (.cons .str (.cons .str (.cons .str .nil))))),
 List.forall_mem_cons.mpr ⟨.tup (vs:=[(.bool false),(.bool true)].toArray) (k:=0) (hG 336 _ (by kernel_rfl)) (.cons .tf (.cons .tf .nil)),fun _ h=>nomatch h⟩⟩
theorem attC_ok:OpOk w d (h1 oAtt attC):=h1_ok oAtt_ok fun n x t K z v e k q A E ha ok=>by
 obtain⟨C,e1,e⟩:=zz e
 obtain⟨e2,e⟩:=zv e
 obtain⟨c,e3,e⟩:=zz e
 cases e
 obtain⟨m,rfl⟩:=pickT_ok e3
 obtain rfl:C=362:=Nat.eq_of_beq_eq_true e2
 rcases w6 e1 ok.rep q with⟨I,hl⟩
 obtain⟨f1,f⟩:=Prod.mk.inj (List.map_inj_left.mp (ct_fine w.params) _ m)
 obtain⟨f2,f3⟩:=Prod.mk.inj f
 exact get_value ok.kin I (by kernel_rfl) (findObj_cls (by kernel_rfl) f1 f2 rfl f3 hl) rfl (ok.rep.endT (ct_tup ok.base _ m) k)
theorem bools_are{xs:List SV}{vs:List Value}(q:VRels y xs vs):∀{l},zJ asB xs=some l→vs=l.map Value.bool:=by
 induction q with
 |nil=>exact fun h=>by cases h;rfl
 | @cons x v _ _ a _ ih=>
  intro l h
  obtain⟨p,e,h⟩:=zz h
  obtain⟨l,e2,h⟩:=zz h
  cases h
  have:x= .tf (match x with| .tf s _=>s|_=>false) p:=by
   induction x using SV.casesOn with
   |tf=>cases e;rfl
   |_=>exact(zu rfl e).elim
  rw [this]at a
  rw [ih e2,show v= .bool p from a.inv];rfl
theorem asB_ok{b:Bool}(h:asB x=some b)(q:VRel y x v):v= .bool b:=by
 induction x using SV.casesOn with
 |tf=>cases h;exact q.inv
 |_=>exact(zu rfl h).elim
theorem vb_eq(a b:Bool):(Value.bool a==Value.bool b)=(a==b):=by cases a<;>cases b<;>rfl
theorem cmpInB_ok:OpOk w d (h2 x5 cmpInB):=zH yP fun op x y t K z v u e k q q2 A E ha ok=>by
 obtain⟨b,e0,e⟩:=zz e
 obtain⟨e1,e⟩:=zv e
 obtain⟨p,e2,e⟩:=zz e
 obtain⟨xs,e3,e⟩:=zz e
 obtain⟨l,e4,e⟩:=zz e
 cases e
 obtain rfl:b=false:=(Bool.not_eq_true' b).mp e1
 obtain rfl:v= .bool p:=asB_ok e2 q
 rw [inOp_ok e0]
 rcases(xQ e3▸q2).inv with @⟨a,vs,c,g,q3⟩
 have hv:=bools_are q3 e4
 refine SeqAt.notIn_tupleAt (fun y=>y== .bool p) ⟨_,ok.rep.sub _ _ g,rfl,c,rfl⟩ (fun y hy=> ?_) ?_
 ·have m:y∈vs.toList:=Array.mem_toList_iff.mpr hy
  rw [hv]at m
  obtain⟨b,_,rfl⟩:=List.mem_map.mp m
  show SeqAt.EqAt A.in1 z.s (.bool b) (.bool p) (Value.bool b==Value.bool p)
  rw [vb_eq];exact SeqAt.EqAt.bool_bool b p
 ·rw [←Array.any_toList,hv,List.any_map,show((fun y=>y==Value.bool p) ∘Value.bool)=fun q=>q==p from funext fun b=>vb_eq b p]
  exact ok.rep.endB k
theorem len_vc(w:World)(K:SV→Prop)(a b c d:List Int×Int):(List.range 5).map (fun n=>yh w (P7 w) 20 579 0 [zw (!zy w) ([a,b,c,d].take n)] [] st0 (yb K))=(List.range 5).map fun n:Nat=>K (.int (n:Int)):=by kernel_rfl
theorem take_four{α:Type}(x:α){l:List α}(h:l.length≤4):∃a b c d,l=[a,b,c,d].take l.length:=by
 have:∀(n:Nat) (l:List α),l.length≤n→∃r:List α,r.length=n∧l=r.take l.length:=fun n=>by
  induction n with
  |zero=>exact fun l h=>⟨[],rfl,(List.eq_nil_of_length_eq_zero (Nat.le_zero.mp h)).trans List.take_nil.symm⟩
  |succ n ih=>
   intro l h
   cases l with
   |nil=>obtain⟨r,e,_⟩:=ih [] (Nat.zero_le _);exact⟨x::r,congrArg (· +1) e,rfl⟩
   |cons y l=>obtain⟨r,e,q⟩:=ih l (Nat.le_of_succ_le_succ h);exact⟨y::r,congrArg (· +1) e,congrArg (y:: ·) q⟩
 obtain⟨r,e,q⟩:=this 4 l h
 match r,e with
 | [a,b,c,d],_=>exact⟨a,b,c,d,q⟩
theorem lenPf_ok:BTOk w (d+16) (.builtin "len") (b1 (lenPf w)):=yx fun x t K z v e k q A E ha ok=>by
 obtain⟨C,e1,e⟩:=zz e
 obtain⟨e2,e⟩:=zv e
 cases e
 obtain⟨vs,⟨rfl,h4⟩,k⟩:=k
 rcases w6 e1 ok.rep q with @⟨a,_,od,I,_⟩
 obtain rfl:C=666:=Nat.eq_of_beq_eq_true e2
 refine len_inst (f:=579) ok.kin I (by kernel_rfl) (by kernel_rfl) ?_
 obtain⟨a,b,c,d',e⟩:=take_four ([],0) h4
 have h:=zM (z:=z) (k:=0) (n:=20) (K:=fun v st=>v= .int vs.length∧st=z.st) (P7_ok w d) (xs:=[zw (!zy w) vs]) rfl rfl (by
  have:=zl (len_vc w (fun v=>v= .int vs.length∧z.st=z.st) a b c d') (List.mem_range.mpr (Nat.lt_succ_of_le h4))
  rw [←e]at this
  exact this.mpr ⟨rfl,rfl⟩) (.cons q .nil) .nil
 refine h.go ok (ha.of (A':=A.in1) (x:=0) (y:=1) rfl rfl rfl (by decide) (by decide)) fun z1 v u S1 o1 p ⟨k1,k2⟩=> ?_
 subst k1
 obtain⟨t,rfl⟩:=p.inv
 exact⟨_,t,rfl,⟨Int.natCast_nonneg _,Int.ofNat_lt.mpr (Nat.lt_of_le_of_lt h4 (by decide:4<2^63))⟩,.from S1 (o1.rep.endT .num (k2▸k))⟩
end
noncomputable def P16(w:World):Prims:={P15 w with
 op:=yw (h1 oAtt attC)<|yw (h2 x5 cmpInB) (P15 w).op
 call:=zp (onA 449 (bfH w))<|zp (onB false "len" (b1 (lenPf w))) (P15 w).call}
theorem P16_ok(w:World)(d:Nat):Sound w (P16 w) (d+20):={P15_ok w (d+1)with
 op:=attC_ok.or<|cmpInB_ok.or (P15_ok w (d+1)).op
 call:=CallOk.or (BTOk.at (bfH_ok w d))<|CallOk.or (BTOk.on (ty:=false) lenPf_ok) (P15_ok w (d+1)).call}
noncomputable def frzF(T:FlT):FlT:=fun t x b fr st K=>∃i xs,x= .ref i∧zA st i=some xs∧zt xs=true∧T t (.vlist xs) b fr (st.drop i) K
theorem FlOk.frz{w:World}{d:Nat}{T:FlT}(h:FlOk w d T):FlOk w d (frzF T):=fun t x b fr K z env v A E k ev q ha ok=>by
 obtain⟨i,xs,rfl,e2,hp,k⟩:=k
 obtain⟨vs,c,rfl,hh,ho,hr⟩:=wa rfl e2 ok.rep q
 have S:=ok.rep.freeze hh ho
 refine wm (h t (.vlist xs) b fr K ⟨xm z.G (z.ρ i) _,z.ρ,z.st.drop i,z.s⟩ env _ A E k (S.env ev) (.vlist hp (vs:=vs) (k:=c) (if_pos rfl) (S.vals hr)) ha (S.ok ok)) fun it s h=>codeAny_mono h fun r s h=> ?_
 cases r with
 |ok f=>exact .from S h
 |error e=>exact h
noncomputable abbrev a1For:Expr×Expr×List Stmt:=forP (sAt (tp 33).2.1 2)
noncomputable abbrev a2For:Expr×Expr×List Stmt:=forP (sAt (tp 33).2.1 5)
noncomputable def x7:FrS:=⟨4,[("profile",5)],(tp 33).2.2,.ref 477⟩
noncomputable def adA(k:Int):List (Str×SV):=[("committeesize",.int k),("resolute",.bool false),("max_num_of_committees",.non)]
noncomputable def adL(i:Nat)(k:Int)(q:SV):List (Str×SV):=adA k++([("best_committees",.ref i),("best_coverage",q)]:List (Str×SV))
noncomputable def adF(i:Nat)(q:SV):List (Str×SV):=[("final_committees",.ref i),("best_score",q)]
noncomputable def adS(p:SV)(k:Int)(q:SV)(L:List SV):St:=⟨[(4,.ns "part" (adL 7 k q)),(5,.cell (some p)),(7,.list L)],10⟩
noncomputable def adS2(p:SV)(k:Int)(q:SV)(L:List SV):St:=⟨[(4,.ns "part" (adA k++adF 11 q)),(5,.cell (some p)),(11,.list L)],14⟩
noncomputable def adK:Kp:=⟨(adL 0 0 .non).map (·.1),["best_committees"],[]⟩
noncomputable def adK2:Kp:=⟨(adA 0++adF 0 .non).map (·.1),["final_committees"],[]⟩
noncomputable def adS0(p:SV)(k:Int):St:=⟨[(6,.list []),(5,.cell (some p)),(4,.ns "frame" (adL 6 k (.int (-1))))],7⟩
noncomputable def adS1(p:SV)(k:Int)(q:SV):St:=⟨[(10,.list []),(4,.ns "part" (adL 7 k q++adF 10 (.int (-1)))),(5,.cell (some p))],11⟩
theorem a_1(w:World)(K:KF)(J:St→Prop)(vs':List (List Int×Int))(c:SV)(k:Int)(L:List SV):vc w (P14 w) 60 (.A a1For.1 c x7 (adS (zw (!zy w) vs') k (.int (-1)) L) fun st1=>vc w (P14 w) 60 (.Ss a1For.2.2 x7 st1 (yZ K (zK 6 7 adK J))))=∃vs l,(zw (!zy w) vs'=zw (!zy w) vs∧zq vs∧yR w c l∧Str.ofString "cc"∈four)∧bestB (adS (zw (!zy w) vs') k) (thQ 0 "cc" vs l) c L (.int (-1)) ((-1:Int):Rat) True J:=by kernel_rfl
theorem a_1f(w:World)(K:KF)(J:St→Prop)(vs':List (List Int×Int))(c:SV)(k:Int)(q:Rat)(L:List SV):vc w (P14 w) 60 (.A a1For.1 c x7 (adS (zw (!zy w) vs') k (.frac q) L) fun st1=>vc w (P14 w) 60 (.Ss a1For.2.2 x7 st1 (yZ K (zK 6 7 adK J))))=∃vs l,(zw (!zy w) vs'=zw (!zy w) vs∧zq vs∧yR w c l∧Str.ofString "cc"∈four)∧bestB (adS (zw (!zy w) vs') k) (thQ 0 "cc" vs l) c L (.frac q) q True J:=by kernel_rfl
theorem a_2(w:World)(K:KF)(J:St→Prop)(vs':List (List Int×Int))(c:SV)(k:Int)(L:List SV):vc w (P14 w) 60 (.A a2For.1 c x7 (adS2 (zw (!zy w) vs') k (.int (-1)) L) fun st1=>vc w (P14 w) 60 (.Ss a2For.2.2 x7 st1 (yZ K (zK 6 11 adK2 J))))=∃vs l,(zw (!zy w) vs'=zw (!zy w) vs∧zq vs∧yR w c l∧Str.ofString "adams"∈four)∧bestB (adS2 (zw (!zy w) vs') k) (thQ 0 "adams" vs l) c L (.int (-1)) ((-1:Int):Rat) True J:=by kernel_rfl
theorem a_2f(w:World)(K:KF)(J:St→Prop)(vs':List (List Int×Int))(c:SV)(k:Int)(q:Rat)(L:List SV):vc w (P14 w) 60 (.A a2For.1 c x7 (adS2 (zw (!zy w) vs') k (.frac q) L) fun st1=>vc w (P14 w) 60 (.Ss a2For.2.2 x7 st1 (yZ K (zK 6 11 adK2 J))))=∃vs l,(zw (!zy w) vs'=zw (!zy w) vs∧zq vs∧yR w c l∧Str.ofString "adams"∈four)∧bestB (adS2 (zw (!zy w) vs') k) (thQ 0 "adams" vs l) c L (.frac q) q True J:=by kernel_rfl
theorem a_an(J:St→Prop)(led:Bool)(vs:List (List Int×Int))(k:Int):zK 6 7 adK J (adS0 (zw led vs) k)=((zt []=true∧True)∧True∧J (adS (zw led vs) k (.int (-1)) [])):=by kernel_rfl
theorem a_an2(J:St→Prop)(led:Bool)(vs:List (List Int×Int))(k:Int)(q:SV):zK 6 11 adK2 J (adS1 (zw led vs) k q)=((zt []=true∧True)∧True∧J (adS2 (zw led vs) k (.int (-1)) [])):=by kernel_rfl
noncomputable def a1T(w:World):FlT:=bestT w a1For x7 (fun p k _=>adS0 p k) adS "cc"
noncomputable def a2T(w:World):FlT:=bestT w a2For x7 adS1 adS2 "adams"
theorem a1T_ok(w:World)(d:Nat):FlOk w (d+19) (a1T w):=bestT_ok (F:=a1For) (fr:=x7) (S0:=fun p k _=>adS0 p k) (S:=adS) (s:="cc") (b0:=6) (n0:=7) (kp:=adK) (X:=fun _=>True) (by decide) (by kernel_rfl) (fun _ _ _=>rfl) (fun _=>trivial) (a_1 w) (a_1f w) fun J vs k q j=>(a_an ..).mpr ⟨⟨rfl,trivial⟩,trivial,j⟩
theorem a2T_ok(w:World)(d:Nat):FlOk w (d+19) (a2T w):=bestT_ok (F:=a2For) (fr:=x7) (S0:=adS1) (S:=adS2) (s:="adams") (b0:=6) (n0:=11) (kp:=adK2) (X:=fun _=>True) (by decide) (by kernel_rfl) (fun _ _ _=>rfl) (fun _=>trivial) (a_2 w) (a_2f w) fun J vs k q j=>(a_an2 ..).mpr ⟨⟨rfl,trivial⟩,trivial,j⟩
noncomputable def lcTurn(w:World)(P:Prims)(V:Task→Prop)(elt:Expr)(gens:List Comprehension)(x:SV)(k acc:Nat)(fr:FrS)(st:St)(K:KS)(v:SV):Prop:=zg gens[0]? fun g=>zI (g.is_async==0) (V (.A g.target v fr st fun st1=>V (.Ifs g.ifs fr st1 fun s c st2=>alt (joinN s c gens[0+1]? elt fr st2) (fun p=>appendC acc p.1 p.2 st2 fun st4=>V (.LC elt gens 0 x (k+1) acc fr st4 K))
    (way s c (alt gens[0+1]? (fun g'=>zI (g'.is_async==0&&notSet g'.iter) (V (.E g'.iter fr st2 fun xv st3=>ap (P.iter xv st3) fun x' st4=>V (.LC elt gens (0+1) x' 0 acc fr st4 fun st5=>V (.LC elt gens 0 x (k+1) acc fr st5 K)))))
     (V (.E elt fr st2 fun y st3=>appendL acc y st3 fun st4=>V (.LC elt gens 0 x (k+1) acc fr st4 K)))) (V (.LC elt gens 0 x (k+1) acc fr st2 K))))))
theorem lc_some{w:World}{P:Prims}{n:Nat}{elt:Expr}{gens:List Comprehension}{x:SV}{k acc:Nat}{fr:FrS}{st:St}{K:KS}{v:SV}(h:zO x k st=some (some v))(t:lcTurn w P (vc w P n) elt gens x k acc fr st K v):vc w P (n+1) (.LC elt gens 0 x k acc fr st K):=by
 obtain⟨g,e,t⟩:=zr t
 obtain⟨a,t⟩:=zm t
 show zg gens[0]? fun g=>zI (g.is_async==0) (zg (zO x k st) _)
 rw [e,h]
 show zI (g.is_async==0) _
 rw [a];exact t
theorem lc_none{w:World}{P:Prims}{n:Nat}{elt:Expr}{gens:List Comprehension}{x:SV}{k acc:Nat}{fr:FrS}{st:St}{K:KS}{g:Comprehension}(e:gens[0]? =some g)(a:(g.is_async==0)=true)(h:zO x k st=some none)(t:K st):vc w P (n+1) (.LC elt gens 0 x k acc fr st K):=by
 show zg gens[0]? fun g=>zI (g.is_async==0) (zg (zO x k st) _)
 rw [e,h]
 show zI (g.is_async==0) _
 rw [a];exact t
theorem lc_run{w:World}{P:Prims}{n:Nat}{elt:Expr}{gens:List Comprehension}{x:SV}{acc:Nat}{fr:FrS}{K:KS}{g:Comprehension}{us:List SV}{F:SV→SV}{nm:Str}(S:List (Str×SV)→List SV→St)(e:gens[0]? =some g)(a:(g.is_async==0)=true)(hi:∀k l L,zO x k (S l L)=some us[k]?)
  (turn:∀m k u l L,u∈us→(l=[]∨∃v,l=[(nm,v)])→L.length≤us.length→vc w P (m+n) (.LC elt gens 0 x (k+1) acc fr (S [(nm,u)] (L++[F u])) K)→lcTurn w P (vc w P (m+n)) elt gens x k acc fr (S l L) K u) (fin:∀l,K (S l (us.map F))) (m:Nat):vc w P (m+us.length+n+1) (.LC elt gens 0 x 0 acc fr (S [] []) K):=by
 have go:∀(j k:Nat),j+k=us.length→∀l,(l=[]∨∃v,l=[(nm,v)])→vc w P (m+j+n+1) (.LC elt gens 0 x k acc fr (S l ((us.take k).map F)) K):=fun j=>by
  induction j with
  |zero=>
   intro k hk l hl
   have hk:k=us.length:=(Nat.zero_add k).symm.trans hk
   refine lc_none e a ((hi ..).trans (congrArg some (List.getElem?_eq_none_iff.mpr (Nat.le_of_eq hk.symm)))) ?_
   rw [List.take_of_length_le (Nat.le_of_eq hk.symm)]
   exact fin l
  |succ j ih=>
   intro k hk l hl
   have hk':k<us.length:=by omega
   have eu:=List.getElem?_eq_getElem hk'
   refine lc_some ((hi ..).trans (congrArg some eu)) ?_
   have:=ih (k+1) (by omega) [(nm,us[k])] (.inr ⟨_,rfl⟩)
   rw [List.take_add_one,eu,List.map_append]at this
   rw [show m+(j+1)+n=(m+j+1)+n by omega]
   refine turn (m+j+1) k _ l _ (List.getElem_mem hk') hl ?_ ?_
   ·rw [List.length_map,List.length_take];exact Nat.min_le_right ..
   ·rw [show m+j+1+n=m+j+n+1 by omega];exact this
 exact go us.length 0 rfl [] (.inl rfl)
noncomputable def P17(w:World):Prims:=({P16 w with
 call:=zp (onA 30 (softV (fun l=>.vset (!zy w) l) (candH w))) (P16 w).call
 frz:=fun l=>Nat.beq l 554}:Prims)
noncomputable def P18(w:World):Prims:=((P17 w).fl 538 (a1T w)).fl 547 (frzF (a2T w))
theorem P17_ok(w:World)(d:Nat):Sound w (P17 w) (d+20):={P16_ok w d with call:=CallOk.or (BTOk.at (BTOk.softV candH_ok)) (P16_ok w d).call}
theorem P18_ok(w:World)(d:Nat):Sound w (P18 w) (d+20):=((P17_ok w d).fl (a1T_ok w (d+1))).fl (FlOk.frz (a2T_ok w (d+1)))
noncomputable def lcP(e:Expr):Expr×List Comprehension×Scope:=match e with
 | .ListComp e g s _=>(e,g,s)
 |_=>(e00,[],(tp 0).2.2)
noncomputable def hdG(l:List Comprehension):Comprehension:=match l with
 |g::_=>g
 | []=>⟨e00,e00,[],0⟩
theorem range6_lt{n:Int}(h:n∈range6):n<6:=by
 have:∀n∈range6,n<6:=by decide
 exact this n h
noncomputable def asgT(s:Stmt):Expr:=match s with
 | .Assign ts _ _=>hdE ts
 |_=>e00
noncomputable abbrev adB:List Stmt:=(tp 33).2.1
noncomputable abbrev adC:Expr×List Comprehension×Scope:=lcP (asgE (sAt adB 6))
noncomputable def adG:FrS:=⟨15,[("profile",5)],relabel adC.2.2 (envOf x7.scope),x7.code⟩
noncomputable def adS3(p:SV)(k:Int)(q:SV)(us:List SV)(l:List (Str×SV))(L:List SV):St:=⟨[(15,.ns "dict" l),(14,.list L),(4,.ns "part" (adA k++adF 11 q)),(5,.cell (some p)),(11,.list us)],16⟩
noncomputable def adE(w:World)(KE:KF):KS:=fun st4=>zI (nsL st4 15).isSome (madeL true (fun v st1=>vc w (P18 w) 72 (.A (asgT (sAt adB 6)) v x7 st1 fun st2=>vc w (P18 w) 73 (.Ss (adB.drop 7) x7 st2 KE))) 14 (st4.drop 15))
theorem ad_f1(w:World)(K:SV→Prop)(vs:List (List Int×Int))(k:Int):yh w (P18 w) 80 478 0 [zw (!zy w) vs,.int k,.bool false,.non] [] st0 (yb K)=((xy=xy∧k∈k4)∧a1T w a1For.1 (.vlist ((zo k).map zE)) a1For.2.2 x7 (adS0 (zw (!zy w) vs) k) fun _ st=>vc w (P18 w) 77 (.Ss (adB.drop 3) x7 st (retK fun v st1=>yb K v (st1.drop 4)))):=by kernel_rfl
theorem ad_f2(w:World)(KE:KF)(p:SV)(k:Int)(q:SV)(L:List SV):vc w (P18 w) 77 (.Ss (adB.drop 3) x7 (adS p k q L) KE)=frzF (a2T w) a2For.1 (.ref 7) a2For.2.2 x7 ⟨[(10,.list []),(4,.ns "part" (adL 7 k q++adF 10 (.int (-1)))),(5,.cell (some p)),(7,.list L)],11⟩ fun _ st=>vc w (P18 w) 74 (.Ss (adB.drop 6) x7 st KE):=by kernel_rfl
theorem ad_f3(w:World)(KE:KF)(p:SV)(k:Int)(q:SV)(us:List SV):vc w (P18 w) 74 (.Ss (adB.drop 6) x7 (adS2 p k q us) KE)=vc w (P18 w) 71 (.LC adC.1 adC.2.1 0 (.ref 11) 0 14 adG (adS3 p k q us [] []) (adE w KE)):=by kernel_rfl
theorem ad_t(w:World)(K:KS)(vs:List (List Int×Int))(n:Int)(q:SV)(us L:List SV)(u v:SV)(m k:Nat):[[],[(Str.ofString "comm",v)]].map (fun l=>lcTurn w (P18 w) (vc w (P18 w) (m+20)) adC.1 adC.2.1 (.ref 11) k 14 adG (adS3 (zw (!zy w) vs) n q us l L) K u)=[[],[(Str.ofString "comm",v)]].map fun _=>∃a,(∀K':KV,K' (.vset (!zy w) a) (adS3 (zw (!zy w) vs) n q us [("comm",u)] L)→zg (candH w [u] [("num_cand",.int 6)] (adS3 (zw (!zy w) vs) n q us [("comm",u)] L)) fun t=>t K')∧zI (Nat.ble L.length sizeLine) (vc w (P18 w) (m+20) (.LC adC.1 adC.2.1 0 (.ref 11) (k+1) 14 adG (adS3 (zw (!zy w) vs) n q us [("comm",u)] (L++[.vset (!zy w) a])) K)):=by kernel_rfl
theorem ad_e(w:World)(K:SV→Prop)(p:SV)(n:Int)(q:SV)(us L:List SV)(l:List (Str×SV)):adE w (retK fun v st1=>yb K v (st1.drop 4)) (adS3 p n q us l L)=zI (zt L) (K (.vlist L)):=by kernel_rfl
noncomputable def zF(vs:List (List Int×Int))(C:List (List Int)):List (List Int):=y8 (thQ 0 "adams" vs) (y8 (thQ 0 "cc" vs) C)
noncomputable def k24:List Int:=[2,3,4]
theorem coms_two:(k24.all fun k=>k4.elem k&&(zo k).all fun l=>xF true l.length 2)=true:=by decide+kernel
noncomputable def adH(w:World):BT:=fun xs ks st=>some fun K=>∃vs k,(xs=[zw (!zy w) vs,.int k,.bool false,.non]∧ks=[]∧zq vs∧k∈k24)∧K (.vlist ((zF vs (zo k)).map (.vset (!zy w)))) st
theorem bestL_ne{f:List Int→Rat}{C:List (List Int)}(hC:C≠[]):y8 f C≠[]:=by
 have:∀D:List (List Int),D≠[]→∃m∈D,∀x∈D,f x≤f m:=fun D=>by
  induction D with
  |nil=>exact fun h=>(h rfl).elim
  |cons x D ih=>
   intro _
   by_cases hD:D=[]
   ·exact⟨x,.head _,fun y m=>by rw [hD]at m;rw [List.mem_singleton.mp m];exact Rat.le_refl⟩
   ·obtain⟨m,hm,h⟩:=ih hD
    by_cases c:f x≤f m
    ·exact⟨m,.tail _ hm,List.forall_mem_cons.mpr ⟨c,h⟩⟩
    ·exact⟨x,.head _,List.forall_mem_cons.mpr ⟨Rat.le_refl,fun y hy=>Rat.le_trans (h y hy) (Rat.le_of_lt (Rat.not_le.mp c))⟩⟩
 obtain⟨m,hm,h⟩:=this C hC
 exact List.ne_nil_of_mem (List.mem_filter.mpr ⟨hm,decide_eq_true h⟩)
theorem adH_ok(w:World)(d:Nat):BTOk w (d+21) (.ref 478) (adH w):=fun xs ks t K z vs kvs e k q qk=>by
 cases e
 obtain⟨us,n,⟨rfl,rfl,hv,hk⟩,kk⟩:=k
 obtain⟨h4,h2⟩:=zx (List.all_eq_true.mp coms_two n hk)
 have h4:=List.elem_iff.mp h4
 obtain⟨c1,c2,c3⟩:=coms_ok h4
 obtain⟨b1,b2⟩:=y2 (f:=thQ 0 "cc" us) (C:=zo n)
 obtain⟨b3,b4⟩:=y2 (f:=thQ 0 "adams" us) (C:=y8 (thQ 0 "cc" us) (zo n))
 have hC:∀l∈zF us (zo n),l∈zo n:=fun l m=>b1 l (b3 l m)
 have l1:(y8 (thQ 0 "cc" us) (zo n)).length≤60:=Nat.le_trans b2 c2
 refine zM (k:=0) (n:=80) (P18_ok w d) rfl rfl ((ad_f1 w (fun v=>K v z.st) us n).mpr ⟨⟨rfl,h4⟩,⟨rfl,rfl⟩,_,n,us,.non,zo n,⟨rfl,rfl,rfl,hv,c1,c2,c3⟩,fun q=>(ad_f2 ..).mpr ⟨7,_,rfl,rfl,yE _,⟨rfl,rfl⟩,_,n,us,.frac q,_,⟨rfl,rfl,rfl,hv,fun l m=>c1 l (b1 l m),l1,bestL_ne c3⟩,fun q=>(ad_f3 ..).mpr ?_⟩⟩) q qk
 have l2:((zF us (zo n)).map zE).length≤50:=by
  rw [List.length_map]
  exact Nat.le_trans b4 (Nat.le_trans b2 ((by
   have:(k4.all fun k=>Nat.ble (zo k).length 50)=true:=by decide+kernel
   exact Nat.le_of_ble_eq_true (List.all_eq_true.mp this n h4))))
 obtain⟨m,e⟩:∃m,71=m+((zF us (zo n)).map zE).length+20+1:=⟨50-((zF us (zo n)).map zE).length,by omega⟩
 rw [show y8 (thQ 0 "adams" us) (y8 (thQ 0 "cc" us) (zo n))=zF us (zo n)from rfl,e]
 refine lc_run (F:=fun u=>.vset (!zy w) (candR u)) (nm:="comm") (adS3 (zw (!zy w) us) n (.frac q) ((zF us (zo n)).map zE)) (g:=hdG adC.2.1) (by kernel_rfl) (by kernel_rfl) (fun _ _ _=>rfl) (fun m k u l L hu hl hL h=> ?_) (fun l=> ?_) m
 ·obtain⟨c,hc,rfl⟩:=List.mem_map.mp hu
  have O:=we (c1 c (hC c hc))
  have e2:candR (zE c)=c:=by
   show yl ((zJ asN (c.map SV.int)).getD [])=c
   rw [yS];exact O.ins
  rw [e2]at h
  have T:∃a,(∀K':KV,K' (.vset (!zy w) a) (adS3 (zw (!zy w) us) n (.frac q) ((zF us (zo n)).map zE) [("comm",zE c)] L)→zg (candH w [zE c] [("num_cand",.int 6)] (adS3 (zw (!zy w) us) n (.frac q) ((zF us (zo n)).map zE) [("comm",zE c)] L)) fun t=>t K')∧zI (Nat.ble L.length sizeLine) (vc w (P18 w) (m+20) (.LC adC.1 adC.2.1 0 (.ref 11) (k+1) 14 adG (adS3 (zw (!zy w) us) n (.frac q) ((zF us (zo n)).map zE) [("comm",zE c)] (L++[.vset (!zy w) a])) (adE w (retK fun v st1=>yb (fun v=>K v z.st) v (st1.drop 4))))):=
   ⟨c,fun K' hK'=>O.candT (c:= .num false 6) (List.all_eq_true.mp h2 c (hC c hc)) (fun s m e x hx=>by cases e;exact range6_lt (O.six x hx)) _ K' hK',by
    rw [Nat.ble_eq_true_of_le (Nat.le_trans hL (Nat.le_trans l2 (sizeLine_eq▸by decide)))];exact h⟩
  rcases hl with rfl|⟨v,rfl⟩
  ·exact(zl (ad_t w _ us n (.frac q) ((zF us (zo n)).map zE) L (zE c) .non m k) (.head _)).mpr T
  ·exact(zl (ad_t w _ us n (.frac q) ((zF us (zo n)).map zE) L (zE c) v m k) (.tail _ (.head _))).mpr T
 ·rw [ad_e,List.map_map]
  have e3:(zF us (zo n)).map ((fun u=>SV.vset (!zy w) (candR u)) ∘zE)=(zF us (zo n)).map (SV.vset (!zy w)):=List.map_congr_left fun c hc=>by
   show SV.vset (!zy w) (yl ((zJ asN (c.map SV.int)).getD []))=_
   rw [yS];exact congrArg _ (we (c1 c (hC c hc))).ins
  rw [e3,ze (fun _=>rfl)]
  exact kk
noncomputable abbrev mgO:Expr×Expr×List Stmt:=forP (sAt (tp 20).2.1 1)
noncomputable abbrev mgI:Expr×Expr×List Stmt:=forP (sAt mgO.2.2 1)
noncomputable def mgFr:FrS:=⟨4,[],(tp 20).2.2,.ref 326⟩
noncomputable def mgL(i:Nat)(s:Str)(p c:SV):List (Str×SV):=[("marginal_scorefct",.vinst 252 (mfs s)),("profile",p),("committee",c),("marginal",.ref i)]
noncomputable def mgU(u:SV)(k:Int):List (Str×SV):=[("voter",u),("intersectionsize",.sint k)]
noncomputable def mgS(s:Str)(p c:SV)(L:List SV):St:=⟨[(4,.ns "part" (mgL 7 s p c)),(7,.list L)],9⟩
noncomputable def mgS1(s:Str)(p c:SV)(L:List SV)(u:SV)(k:Int):St:=⟨[(4,.ns "part" (mgL 7 s p c++mgU u k)),(7,.list L)],9⟩
noncomputable def mgS2(s:Str)(p c:SV)(L:List SV)(u:SV)(k:Int):St:=⟨[(4,.ns "part" (mgL 9 s p c++mgU u k)),(9,.list L)],11⟩
noncomputable def mgS0(s:Str)(p c:SV)(L L0:List SV):St:=⟨[(6,.list L),(5,.list L0),(4,.ns "frame" (mgL 6 s p c))],7⟩
noncomputable def mgK:Kp:=⟨(mgL 0 "" .non .non).map (·.1),["marginal"],["profile","committee"]⟩
noncomputable def mgK2:Kp:=⟨(mgL 0 "" .non .non++mgU .non 0).map (·.1),["marginal"],["profile","committee","voter"]⟩
noncomputable def P20(w:World):Prims:={P14 w with
 op:=yw (h2 wd subQ)<|yw (h3 oSeI setIQ) (P14 w).op
 call:=zp (onB false "set.intersection" (softV (fun l=>.vset (!zy w) l) (b2 (interB w)))) (P14 w).call}
theorem P20_ok(w:World)(d:Nat):Sound w (P20 w) (d+19):={yn w d with
 op:=subQ_ok.or<|setIQ_ok.or (yn w d).op
 call:=CallOk.or (BTOk.on (ty:=false) (BTOk.softV interB_ok)) (yn w d).call}
noncomputable def six(Q:Nat→Rat):List SV:=(List.range 6).map fun i=>SV.frac (Q i)
noncomputable def mv(s:Str)(l:List Int)(v:List Int×Int)(i:Nat):Rat:=if v.1.elem (i:Int)then fQ s ((zP v.1 l).length+1)*v.2 else 0
noncomputable def mgQ(s:Str)(vs:List (List Int×Int))(l:List Int)(i:Nat):Rat:=vs.foldl (fun q v=>q+mv s l v i) 0
noncomputable def mgIT(w:World):FlT:=fun t x b fr st K=>((t,b)=(mgI.1,mgI.2.2)∧fr=mgFr)∧∃s p c Q v k,(st=mgS1 s p c (six Q) (zk (!zy w) v) (k:Nat)∧x= .vset (!zy w) v.1∧(p.pure=true∧c.pure=true)∧s∈four∧smallL v.1∧k<4∧(∀i,Dd (Q i))∧v.2.natAbs<2^64)∧K .next (mgS2 s p c (six fun i=>Q i+if v.1.elem (i:Int)then fQ s ((k:Int)+1)*v.2 else 0) (zk (!zy w) v) k)
theorem mg_in(w:World)(K:KF)(J:St→Prop)(s:Str)(p c:SV)(L:List SV)(v:List Int×Int)(k:Nat)(y:Int):vc w (P20 w) 40 (.A mgI.1 (.sint y) mgFr (mgS2 s p c L (zk (!zy w) v) k) fun st1=>vc w (P20 w) 40 (.Ss mgI.2.2 mgFr st1 (yZ K (zK 5 9 mgK2 J))))=
 ∃(j:Nat) (q:Rat),(y=(j:Int)∧L[j]? =some (.frac q)∧L.length≤1000000)∧∃s',(SV.vinst 252 (mfs s)= .vinst 252 (mfs s')∧s'∈four∧(k:Int)+1∈k4)∧((fQ s' ((k:Int)+1)).den<2^64∧(v.2:Rat).num.natAbs<2^64)∧q.den*(fQ s' ((k:Int)+1)*(v.2:Rat)).den<2^64∧
  ∃j':Nat,(y=(j':Int)∧j'<L.length∧L.length≤1000000)∧(zt (setN L j' (.frac (q+fQ s' ((k:Int)+1)*v.2)))=true∧True)∧(p.pure=true∧c.pure=true∧(zk (!zy w) v).pure=true∧True)∧J (mgS2 s p c (setN L j' (.frac (q+fQ s' ((k:Int)+1)*v.2))) (zk (!zy w) v) k):=by kernel_rfl
theorem mg_an(w:World)(J:St→Prop)(s:Str)(p c:SV)(L:List SV)(v:List Int×Int)(k:Int):zK 5 9 mgK2 J (mgS1 s p c L (zk (!zy w) v) k)=((zt L=true∧True)∧(p.pure=true∧c.pure=true∧(zk (!zy w) v).pure=true∧True)∧J (mgS2 s p c L (zk (!zy w) v) k)):=by kernel_rfl
theorem mg_t:mgI.1= .Name (zT mgI.1).1 (zT mgI.1).2:=by kernel_rfl
theorem six_get{Q:Nat→Rat}{j:Nat}(h:j<6):(six Q)[j]? =some (.frac (Q j)):=by
 unfold six
 rw [List.getElem?_map,List.getElem?_range h];rfl
theorem six_set{Q:Nat→Rat}{j:Nat}{r:Rat}(h:j<6):setN (six Q) j (.frac r)=six fun i=>if i=j then r else Q i:=by
 match j,h with
 |0,_=>rfl
 |1,_=>rfl
 |2,_=>rfl
 |3,_=>rfl
 |4,_=>rfl
 |5,_=>rfl
theorem six_pure(Q:Nat→Rat):zt (six Q)=true:=rfl
theorem range6_nat{y:Int}(h:y∈range6):∃j:Nat,y=j∧j<6:=by
 have:∀y∈range6,0≤y∧y.toNat<6:=by decide
 exact⟨y.toNat,(Int.toNat_of_nonneg (this y h).1).symm,(this y h).2⟩
theorem smallL.nodup{xs:List Int}(h:smallL xs):xs.Nodup:=h.self▸List.Pairwise.filter _ (by decide)
theorem elem_take{ys:List Int}{k:Nat}{y:Int}(h:ys[k]? =some y)(hn:ys.Nodup):(ys.take k).elem y=false∧∀x,(ys.take (k+1)).elem x=((ys.take k).elem x||x==y):=by
 refine⟨Bool.eq_false_iff.mpr fun e=> ?_,fun x=> ?_⟩
 ·have:=(take_snoc h▸List.Pairwise.sublist (List.take_sublist (k+1) ys) hn:(ys.take k++[y]).Nodup)
  exact(List.nodup_append.mp this).2.2 y (List.elem_iff.mp e) y (.head _) rfl
 ·rw [take_snoc h,List.elem_eq_contains,List.elem_eq_contains,List.contains_append,List.contains_cons,List.contains_nil,Bool.or_false]
theorem mgIT_ok(w:World)(d:Nat):FlOk w (d+19) (mgIT w):=fun t x b fr K z env v A E h ev q ha ok=>by
 obtain⟨⟨e,rfl⟩,s,p,c,Q,u,n,⟨hst,rfl,⟨hp,hc⟩,hs,hu,hk4,hQ,hv⟩,kk⟩:=h
 obtain⟨rfl,rfl⟩:=Prod.mk.inj e
 have m:=k4_of hk4
 have D:=(fQ_ok hs m).1
 have D2:Dd (fQ s ((n:Int)+1)*u.2):=Dd.mul D
 rw [mg_t]
 refine yA (P:=P20 w) (N:=40) (b0:=5) (kp:=mgK2) (P20_ok w d) (show(P20 w).iter (.vset (!zy w) u.1) z.st=some _ from it_set w _ _ _) ⟨rfl,all_N (fun ys hy=> ?_) _⟩ q ev ha ok
 have e:(ys.map SV.sint).length=u.1.length:=(List.length_map ..).trans hy.length_eq
 have hn:ys.Nodup:=hy.nodup_iff.mpr hu.nodup
 rw [hst]
 refine⟨ys.map SV.sint,fun k st=>st=mgS2 s p c (six fun i=>Q i+if(ys.take k).elem (i:Int)then fQ s ((n:Int)+1)*u.2 else 0) (zk (!zy w) u) n,fun k st=> ?_,(mg_an ..).mpr ⟨⟨rfl,trivial⟩,⟨hp,hc,rfl,trivial⟩,?_⟩,⟨fun k y st hk e1=> ?_,fun k st hk e1=> ?_⟩⟩
 ·show some (ys[k]?.map SV.sint)=some (ys.map SV.sint)[k]?
  rw [List.getElem?_map]
 ·exact congrArg (fun L=>mgS2 s p c L (zk (!zy w) u) n) (congrArg six (funext fun i=>(Rat.add_zero (Q i)).symm))
 ·obtain⟨y,hy2,rfl⟩:=map_get? hk
  obtain⟨j,rfl,hj⟩:=range6_nat (hu.six (hy.mem_iff.mp (List.mem_of_getElem? hy2)))
  obtain⟨h1,h2⟩:=elem_take hy2 hn
  rw [e1,←mg_t]
  refine(mg_in ..).mpr ⟨j,Q j,⟨rfl,(six_get hj).trans ?_,Nat.le_of_ble_eq_true rfl⟩,s,⟨rfl,hs,m⟩,⟨Nat.lt_of_le_of_lt D.le (by decide),(Rat.num_intCast _).symm▸hv⟩,lt64 (hQ j).le D2.le,j,⟨rfl,hj,Nat.le_of_ble_eq_true rfl⟩,⟨?_,trivial⟩,⟨hp,hc,rfl,trivial⟩,?_⟩
  ·rw [h1];exact congrArg (fun q=>some (SV.frac q)) (Rat.add_zero _)
  ·rw [six_set hj];rfl
  ·rw [six_set hj]
   refine congrArg (fun L=>mgS2 s p c L (zk (!zy w) u) n) (congrArg six (funext fun i=> ?_))
   rw [h2]
   by_cases c:i=j
   ·rw [if_pos c,c,beq_self_eq_true,Bool.or_true,if_pos rfl]
   ·rw [if_neg c,beq_false_of_ne fun q:(i:Int)=j=>c (Int.ofNat.inj q),Bool.or_false]
 ·rw [List.take_of_length_le (Nat.le_trans (Nat.le_of_eq (List.length_map ..).symm) (List.getElem?_eq_none_iff.mp hk))]at e1
  refine(congrArg (K .next) (e1.trans (congrArg (fun L=>mgS2 s p c L (zk (!zy w) u) n) (congrArg six (funext fun i=> ?_))))).mpr kk
  rw [Bool.eq_iff_iff.mpr (List.elem_iff.trans (hy.mem_iff.trans List.elem_iff.symm):ys.elem (i:Int)=true↔u.1.elem (i:Int)=true)]
noncomputable def P21(w:World):Prims:=(P20 w).fl 242 (mgIT w)
theorem P21_ok(w:World)(d:Nat):Sound w (P21 w) (d+19):=(P20_ok w d).fl (mgIT_ok w d)
noncomputable def mgS3(s:Str)(p c:SV)(L:List SV)(u:SV):St:=⟨[(4,.ns "part" (mgL 7 s p c++([("voter",u)]:List (Str×SV)))),(7,.list L)],9⟩
theorem mg_out(w:World)(K:KF)(J:St→Prop)(s:Str)(p c:SV)(L:List SV)(v:List Int×Int):vc w (P21 w) 60 (.A mgO.1 (zk (!zy w) v) mgFr (mgS s p c L) fun st1=>vc w (P21 w) 60 (.Ss mgO.2.2 mgFr st1 (yZ K (zK 5 7 mgK J))))=∃a,(∀K':KV,K' (.vset (!zy w) a) (mgS3 s p c L (zk (!zy w) v))→zg (b2 (interB w) [.vset (!zy w) v.1,c] [] (mgS3 s p c L (zk (!zy w) v))) fun t=>t K')∧
 mgIT w mgI.1 (.vset (!zy w) v.1) mgI.2.2 mgFr (mgS1 s p c L (zk (!zy w) v) a.length) fun _ st=>zK 5 7 mgK J st:=by kernel_rfl
theorem mg_an2(J:St→Prop)(s:Str)(p c:SV)(L:List SV)(u:SV)(k:Int):zK 5 7 mgK J (mgS2 s p c L u k)=((zt L=true∧True)∧(p.pure=true∧c.pure=true∧True)∧J (mgS s p c L)):=by kernel_rfl
theorem mg_an0(J:St→Prop)(s:Str)(p c:SV)(L L0:List SV):zK 5 7 mgK J (mgS0 s p c L L0)=((zt L=true∧True)∧(p.pure=true∧c.pure=true∧True)∧J (mgS s p c L)):=by kernel_rfl
theorem mg_t1:mgO.1= .Name (zT mgO.1).1 (zT mgO.1).2:=by kernel_rfl
noncomputable def ls7:List (List Int):=[]::range6.map fun a=> [a]
theorem ls7_of{l:List Int}(h:l∈ls7):l.length≤1∧∀x∈l,x∈range6:=by
 have:∀l∈ls7,l.length≤1∧∀x∈l,x∈range6:=by decide
 exact this l h
theorem int_ok{w:World}{l ap:List Int}(h:l∈ls7)(st:St)(K:KV)(k:K (.vset (!zy w) (zP ap l)) st):zg (b2 (interB w) [.vset (!zy w) ap,.vlist (l.map SV.int)] [] st) fun t=>t K:=by
 show zg ((zJ asN (l.map SV.int)).bind _) _
 rw [yS]
 refine⟨⟨rfl,fun p m=> ?_,?_⟩,?_⟩
 ·obtain⟨x,m',rfl⟩:=List.mem_map.mp m
  exact(ls7_of h).2 x m'
 ·rw [List.length_map];exact(ls7_of h).1
 ·rw [List.map_map,show((fun p:Bool×Int=>p.2) ∘fun x=>(false,x))=id from rfl,List.map_id];exact k
noncomputable def mgOT(w:World):FlT:=fun t x b fr st K=>((t,b)=(mgO.1,mgO.2.2)∧fr=mgFr)∧∃s l vs L0 Q,(st=mgS0 s x (.vlist (l.map SV.int)) (six Q) L0∧x=zw (!zy w) vs∧s∈four∧zq vs∧l∈ls7∧Q=fun _=>0)∧K .next (mgS s x (.vlist (l.map SV.int)) (six (mgQ s vs l)))
theorem mv_Dd{s:Str}(hs:s∈four){l:List Int}{v:List Int×Int}(h3:(zP v.1 l).length<4)(i:Nat):Dd (mv s l v i):=by
 unfold mv
 by_cases c:v.1.elem (i:Int)=true
 ·rw [if_pos c];exact Dd.mul (fQ_ok hs (k4_of h3)).1
 ·rw [if_neg c];exact⟨420,by decide⟩
theorem inter_lt{vs:List (List Int×Int)}{v:List Int×Int}{l:List Int}(hv:zq vs)(m:v∈vs):(zP v.1 l).length<4:=Nat.lt_of_le_of_lt (Nat.le_trans (inter_le (hv v m).1) (hv v m).2.2.2) (by decide)
theorem mgQ_Dd{s:Str}(hs:s∈four){l:List Int}{vs:List (List Int×Int)}(hv:zq vs)(i:Nat):Dd (mgQ s vs l i):=by
 have:∀(vs:List (List Int×Int)) (q:Rat),zq vs→Dd q→Dd (vs.foldl (fun q v=>q+mv s l v i) q):=fun vs=>by
  induction vs with
  |nil=>exact fun _ _ h=>h
  |cons v vs ih=>exact fun q hv h=>ih _ (fun x m=>hv x (.tail _ m)) (h.add (mv_Dd hs (inter_lt hv (.head _)) i))
 exact this vs 0 hv ⟨420,by decide⟩
theorem mgOT_ok(w:World)(d:Nat):FlOk w (d+19) (mgOT w):=fun t x b fr K z env v A E h ev q ha ok=>by
 obtain⟨⟨e,rfl⟩,s,l,vs,L0,Q,⟨hst,rfl,hs,hv,hl,rfl⟩,kk⟩:=h
 obtain⟨rfl,rfl⟩:=Prod.mk.inj e
 rw [mg_t1]
 refine yA (P:=P21 w) (N:=60) (b0:=5) (kp:=mgK) (P21_ok w d) (show(P21 w).iter (zw (!zy w) vs) z.st=some _ from it_prof w _ _ _) ?_ q ev ha ok
 rw [hst]
 refine⟨vs.map (zk (!zy w)),fun k st=>st=mgS s (zw (!zy w) vs) (.vlist (l.map SV.int)) (six (mgQ s (vs.take k) l)),fun _ _=>rfl,(mg_an0 ..).mpr ⟨⟨rfl,trivial⟩,⟨rfl,rfl,trivial⟩,rfl⟩,⟨fun k y st hk e1=> ?_,fun n st hk e1=> ?_⟩⟩
 ·obtain⟨u,hu,rfl⟩:=map_get? hk
  have m:=List.mem_of_getElem? hu
  rw [e1,←mg_t1]
  refine(mg_out ..).mpr ⟨zP u.1 l,int_ok hl _,⟨rfl,rfl⟩,s,_,_,mgQ s (vs.take k) l,u,(zP u.1 l).length,⟨rfl,rfl,⟨rfl,rfl⟩,hs,(hv u m).1,inter_lt hv m,mgQ_Dd hs (fun x m=>hv x (List.mem_of_mem_take m)),(hv u m).2.1⟩,(mg_an2 ..).mpr ⟨⟨rfl,trivial⟩,⟨rfl,rfl,trivial⟩,?_⟩⟩
  exact congrArg (fun Q=>mgS s (zw (!zy w) vs) (.vlist (l.map SV.int)) (six Q)) (funext fun i=>(foldl_take (f:=fun q v=>q+mv s l v i) hu).symm)
 ·rw [e1,List.take_of_length_le ((List.length_map (zk (!zy w)))▸List.getElem?_eq_none_iff.mp hk)]
  exact kk
noncomputable def P22(w:World):Prims:=(P14 w).fl 240 (mgOT w)
theorem P22_ok(w:World)(d:Nat):Sound w (P22 w) (d+19):=(yn w d).fl (mgOT_ok w d)
noncomputable def mgF(l:List Int)(Q:Nat→Rat)(i:Nat):Rat:=if l.elem (i:Int)then Rat.divInt (-1) 1 else Q i
noncomputable def mgC(l:List Int)(R:Prop):Prop:=match l with
 | []=>R
 |_::_=>(1:Int)≠0∧(1:Int).natAbs<2^64∧R
theorem mg_f1(w:World)(K:SV→Prop)(s:Str)(vs:List (List Int×Int))(c:SV):yh w (P22 w) 60 327 0 [.vinst 252 (mfs s),zw (!zy w) vs,c] [] st0 (yb K)=((1:Int)≠0∧(1:Int).natAbs<2^64∧mgOT w mgO.1 (zw (!zy w) vs) mgO.2.2 mgFr (mgS0 s (zw (!zy w) vs) c (six fun _=>Rat.divInt 0 1) [.frac (Rat.divInt 0 1)]) fun _ st=>vc w (P22 w) 58 (.Ss ((tp 20).2.1.drop 2) mgFr st (retK fun v st1=>yb K v (st1.drop 4)))):=by kernel_rfl
theorem mg_f2(w:World)(K:SV→Prop)(s:Str)(p:SV)(Q:Nat→Rat):ls7.map (fun l=>vc w (P22 w) 58 (.Ss ((tp 20).2.1.drop 2) mgFr (mgS s p (.vlist (l.map SV.int)) (six Q)) (retK fun v st1=>yb K v (st1.drop 4))))=ls7.map fun l=>mgC l (K (.vlist (six (mgF l Q)))):=by kernel_rfl
noncomputable def mgR(s:Str)(vs:List (List Int×Int))(l:List Int):Nat→Rat:=mgF l (mgQ s vs l)
noncomputable def mgH(w:World):BT:=fun xs ks st=>some fun K=>∃s vs l,(xs=[.vinst 252 (mfs s),zw (!zy w) vs,.vlist (l.map SV.int)]∧ks=[]∧zq vs∧s∈four∧l∈ls7)∧K (.vlist (six (mgR s vs l))) st
theorem mgH_ok(w:World)(d:Nat):BTOk w (d+20) (.ref 327) (mgH w):=fun xs ks t K z vs kvs e k q qk=>by
 cases e
 obtain⟨s,us,l,⟨rfl,rfl,hv,hs,hl⟩,kk⟩:=k
 refine zM (k:=0) (n:=60) (P22_ok w d) rfl rfl ((mg_f1 ..).mpr ⟨by decide,by decide,⟨rfl,rfl⟩,s,l,us,_,_,⟨rfl,rfl,hs,hv,hl,?_⟩,(zl (mg_f2 w _ s _ (mgQ s us l)) hl).mpr ?_⟩) q qk
 ·exact funext fun _=>by rfl
 ·unfold mgC
  cases l with
  |nil=>exact kk
  |cons x l=>exact⟨by decide,by decide,kk⟩
noncomputable def SortOk(w:World)(st:St)(A:Around)(lt:Nat→Nat→Bool)(kw:List (Str×Value))(xs:List SV):Prop:=∀(z1:Z) (vs:List Value) (b:Addr) (s1:Shared) (P:PySem.Fin→Shared→Prop) E',Ok w z1→z1.st=st→VRels z1.y xs vs→JX z1 [b] s1→s1.heap.get? b=some (seqObj "list" vs.toArray 0)→
 (∀p c s2,JX z1 [b] s2→perm vs.length p→Srt lt true p vs.length→s2.heap.get? b=some (seqObj "list" (y4 .none vs p).toArray c)→P (.done (.ret .none)) s2)→wpAny (model pw w) A (Builtin.«list.sort» ⟨[.ref b],kw⟩) P E' s1
section
variable {w:World}{d:Nat}{z:Z}{A:Around}{E:Value→Shared→Prop}{lt:Nat→Nat→Bool}{xs:List SV}{K:KV}{v:Value}
theorem sorted_list(ok:Ok w z)(q:VRel z.y (.vlist xs) v)(h64:xs.length<64)(sort:SortOk w z.st A.in1.in1 lt [] xs)(k:∀p,perm xs.length p→Srt lt true p xs.length→K (.vlist (y4 .non xs p)) z.st):wpAny (model pw w) A (call (.builtin "sorted") [v] []) (Post VRel K z) E z.s:=by
 rcases q.inv with⟨hp,@⟨a,arr,c,g,hv⟩⟩
 refine call_function_entry_kw kind_sorted plain_sorted entry_sorted (args_sorted1 _) ?_
 unfold Builtin.«sorted»
 refine wpAny_bind (m:=checkCount "sorted" 1 1 _) (wpAny_pure ?_)
 refine wpAny_bind (collect_list (vs:=arr.toList) ⟨_,ok.rep.sub _ _ g,rfl,_,rfl⟩ ?_ (Nat.le_trans (Nat.le_of_eq hv.length.symm) (sl h64)))
 have S:Step z (z.sh {z.s with heap:=(z.s.heap.push (seqObj "list" #[] 0)).update z.new (Obj.mapSeq (· ++arr.toList.toArray))}):=
  ok.rep.grow (fun b o e=>(Heap.get?_update_other _ _ fun q=>zu (zh z.s.heap) ((show z.s.heap.objs.size=b from q).symm▸e)).trans (Heap.get?_push_of_some _ e)) .heap
 exact xJ (z:=z.sh _) (lt:=lt) S.rep (S.vals hv) hp (hv.length▸h64) args_list_sort (fun b s1 P E' j ho hP=>sort _ _ b s1 P E' (S.ok ok) rfl (S.vals hv) j ho hP) fun v G2 s2 p h1 h2 T q=>.mk (S.trans T) q (k p h1 h2)
theorem outG_map{α β:Type}{d:α}{e:β}{f:α→β}{l:List α}{p:Array Nat}(h:perm l.length p):y4 e (l.map f) p=(y4 d l p).map f:=by
 unfold y4
 rw [List.map_map]
 refine List.map_congr_left fun i m=>Option.some.inj ?_
 have hi:=perm_lt h m
 rw [←zN (d:=e) (List.length_map (f:=f)▸hi),List.getElem?_map,zN (d:=d) hi];rfl
theorem up_pair{α:Type}{R:α→α→Prop}{d:α}{l:List α}{p:Array Nat}(hp:perm l.length p)(hu:Srt lt true p l.length)(hR:∀i j,lt j i=false→R (l.getD i d) (l.getD j d)):(y4 d l p).Pairwise R:=by
 refine List.pairwise_iff_getElem.mpr fun i j hi hj hij=> ?_
 have hs:(y4 d l p).length=p.size:=List.length_map ..
 have e:∀k (h:k<(y4 d l p).length),(y4 d l p)[k]=l.getD (ga p k) d:=fun k h=>by
  refine(List.getElem_map ..).trans (congrArg (l.getD · d) ?_)
  rw [ga_eq,Array.getElem?_eq_getElem (hs▸h)];rfl
 rw [e i hi,e j hj]
 exact hR _ _ (hu i j (Nat.le_of_lt hij) (hs.trans hp.size▸hj))
theorem wg{α:Type}{R:α→α→Prop}{f:α→SV}{lt:α→α→Bool}{d:α}{l:List α}(hR:∀a b,lt b a=false→R a b)(ok:Ok w z)(q:VRel z.y (.vlist (l.map f)) v)(h64:l.length<64)(sort:SortOk w z.st A.in1.in1 (fun i j=>lt (l.getD i d) (l.getD j d)) [] (l.map f))(k:∀bs:List α,bs.Perm l→bs.Pairwise R→K (.vlist (bs.map f)) z.st):wpAny (model pw w) A (call (.builtin "sorted") [v] []) (Post VRel K z) E z.s:=
 have e:(l.map f).length=l.length:=List.length_map ..
 sorted_list ok q (e▸h64) sort fun p hp hu=>outG_map (d:=d) (e▸hp)▸k _ (xB (e▸hp)) (up_pair (e▸hp) (e▸hu) fun i j=>hR _ _)
noncomputable def sortI(x:SV)(st:St):Tr:=match x with
 | .vlist xs=>(zJ asN xs).bind fun ns=>zj (Nat.ble ns.length 63) (some fun K=>allN ns.length fun bs=>bs.Perm (ns.map (·.2))→bs.Pairwise (· ≤·)→K (.vlist (bs.map SV.sint)) st)
 |_=>none
theorem nus_wk{y:Y}:∀{ns:List (Bool×Int)} {vs:List Value},VRels y (ns.map nu) vs→VRels y ((ns.map (·.2)).map SV.sint) vs
 | [],_,q=>q.nil_inv▸ .nil
 |_::_,_,q=>by
  obtain⟨v,vs,rfl,a,q1⟩:=q.cons_inv
  obtain⟨t,rfl⟩:=a.inv
  exact .cons .num (nus_wk q1)
theorem ord_int(f:Nat→Int):Ord fun i j=>decide (f i<f j)where
 asym:=fun i j h=>decide_eq_false (Int.not_lt.mpr (Int.le_of_lt (of_decide_eq_true h)))
 tr:=fun i j k h1 h2=>decide_eq_false (Int.not_lt.mpr (Int.le_trans (Int.not_lt.mp (of_decide_eq_false h1)) (Int.not_lt.mp (of_decide_eq_false h2))))
theorem VRels.atM{α:Type}{y:Y}{f:α→SV}{d:α}{l:List α}{vs:List Value}(h:VRels y (l.map f) vs){i:Nat}(hi:i<vs.length):VRel y (f (l.getD i d)) (vs.getD i .none):=by
 have e:=h.length
 rw [List.length_map]at e
 exact h.get i _ (List.getElem?_map .. |>.trans (congrArg (Option.map f) (zN (d:=d) (e.symm▸hi))))
theorem mem_at{vs:List Value}{v:Value}(h:v∈vs):∃i,i<vs.length∧vs.getD i .none=v:=by
 obtain⟨i,e⟩:=List.mem_iff_getElem?.mp h
 exact⟨i,(List.getElem?_eq_some_iff.mp e).1,(List.getD_eq_getElem?_getD ..).trans (e▸rfl)⟩
theorem ints_sort{l:List Int}{st:St}(h64:l.length<64):SortOk w st A (fun i j=>decide (l.getD i 0<l.getD j 0)) [] (l.map SV.sint):=fun z1 vs b s1 P E' ok1 hz hv ⟨G,j⟩ ho hP=>by
 have hl:vs.length<64:=hv.length▸(List.length_map (f:=SV.sint)).symm▸h64
 have iv:∀i,i<vs.length→∃t,vs.getD i .none= .int (l.getD i 0) t:=fun i hi=>(hv.atM (d:=0) hi).inv
 refine lsort_ok (κ:=oneType') (ord_int _) (.head _) j ho hl (fun h2 s1 Q _ hQ=>kas_kind (T:= .type "int") h2 (fun v hm=> ?_) (by decide) (by decide) hQ) (fun i j s1 C hi hj hJ _ kC=> ?_) hP
 ·obtain⟨i,hi,rfl⟩:=mem_at hm
  obtain⟨t,e⟩:=iv i hi
  rw [e];exact Looks.of_pure rfl
 ·obtain⟨t,e⟩:=iv i hi
  obtain⟨u,e'⟩:=iv j hj
  rw [e,e',keyLt'_oneType]
  exact oneLt_int (kC s1 hJ rfl)
theorem sortI_ok:BTOk w d (.builtin "sorted") (b1 sortI):=yx fun x t K z v e k q A E ha ok=>by
 induction x using SV.casesOn with
 |vlist xs=>
  obtain⟨ns,e1,e⟩:=zz e
  obtain⟨e2,e⟩:=zv e
  cases e
  obtain rfl:=xf e1
  have q':VRel z.y (.vlist ((ns.map (·.2)).map SV.sint)) v:=by
   rcases q.inv with⟨_,⟨g,hv⟩⟩
   exact .vlist (ze (fun _=>rfl) _) g (nus_wk hv)
  have hl:(ns.map (·.2)).length=ns.length:=List.length_map ..
  have h64:(ns.map (·.2)).length<64:=hl▸Nat.lt_succ_of_le (Nat.le_of_ble_eq_true e2)
  exact wg (R:=(· ≤·)) (d:=0) (lt:=fun a b=>decide (a<b)) (fun a b h=>Int.not_lt.mp (of_decide_eq_false h)) ok q' h64 (ints_sort h64) fun bs h1 h2=>allN_of k bs (h1.length_eq.trans hl) h1 h2
 |_=>exact(zu rfl e).elim
end
noncomputable def allQ:Nat→(List Rat→Prop)→Prop
 |0,f=>f []
 |n+1,f=>∀a,allQ n fun r=>f (a::r)
theorem allQ_of:∀{n:Nat} {f:List Rat→Prop},allQ n f→∀l,l.length=n→f l
 |0,_,h,l,e=>List.eq_nil_of_length_eq_zero e▸h
 |n+1,_,h,[],e=>nomatch e
 |n+1,_,h,a::r,e=>allQ_of (h a) r (Nat.succ.inj e)
noncomputable def sortF(x:SV)(st:St):Tr:=match x with
 | .vlist xs=>(zJ asF xs).bind fun qs=>zj (Nat.ble qs.length 63) (some fun K=>(∀q∈qs,q.den<2^64)∧allQ qs.length fun bs=>bs.Perm qs→bs.Pairwise (· ≤·)→K (.vlist (bs.map SV.frac)) st)
 |_=>none
theorem fracs_inv:∀{us:List SV} {qs:List Rat},zJ asF us=some qs→us=qs.map SV.frac
 | [],_,h=>by cases h;rfl
 |u::us,_,h=>by
  obtain⟨b,e1,h⟩:=zz h
  obtain⟨r,e2,h⟩:=zz h
  cases h
  exact List.cons_eq_cons.mpr ⟨asF_ok e1,fracs_inv e2⟩
theorem ord_rat(f:Nat→Rat):Ord fun i j=>decide (f i<f j)where
 asym:=fun i j h=>decide_eq_false (Rat.not_lt.mpr (Rat.le_of_lt (of_decide_eq_true h)))
 tr:=fun i j k h1 h2=>decide_eq_false (Rat.not_lt.mpr (Rat.le_trans (Rat.not_lt.mp (of_decide_eq_false h1)) (Rat.not_lt.mp (of_decide_eq_false h2))))
section
variable {w:World}{d:Nat}{z:Z}{A:Around}{p r:Rat}{v u:Value}{a:Addr}{s:Shared}{G:GH}
theorem frac_lt{C:Bool→Shared→Prop}(ha:AOk (d+2) A)(ok:Ok w z)(j:JS z [a] G s)(lv:∃o,s.heap.get? a=some o)(hp:p.den<2^64)(hr:r.den<2^64)(q1:VRel z.y (.frac p) v)(q2:VRel z.y (.frac r) u)(k:∀s2,JX z [a] s2→s2.heap.get? a=s.heap.get? a→C (decide (p<r)) s2):wpAny (model pw w) A (keyLt' oneType' v u) C (fun _ _=>False) s:=by
 have q1:=j.step.val q1
 have q2:=j.step.val q2
 have ok1:=j.step.ok ok
 have h:=zM (z:=⟨G,z.ρ,z.st,s⟩) (K:=fun v st=>st=z.st∧v= .sbool (decide (p<r))) (P1_ok w d) (show zt [.frac p,.frac r]=true from rfl) rfl (fopF OA.lt rfl ⟨hp,hr⟩ ⟨rfl,rfl⟩) (.cons q1 (.cons q2 .nil)) .nil
 rcases q1.inv with⟨g1,g2,_⟩
 have I:=yo (ok1.rep.sub _ _ g1) (ok1.rep.sub _ _ g2)
 rw [keyLt'_oneType,oneLt'_eq,if_pos rfl]
 refine wpAny_bind (wpAny_cRoomFor (Nat.lt_of_le_of_lt (Nat.le_add_right _ _) ha.2.2) ?_)
 refine wpAny_bind (ifBound_K (f:=170) ok1.kin I (by kernel_rfl) (by kernel_rfl) (wm (h A _ ha ok1) fun v s2 p=> ?_))
 cases p with
 | @mk z2 b _ T q k2=>
  obtain⟨e,rfl⟩:=k2
  obtain rfl:=q.inv
  obtain⟨j2,same⟩:=j.go T e fun b m=>List.mem_singleton.mp m▸lv
  exact wpAny_truthy_bool (k _ ⟨_,j2⟩ (same a (.head _)))
theorem sortF_ok:BTOk w (d+4) (.builtin "sorted") (b1 sortF):=yx fun x t K z v e k q A E ha ok=>by
 induction x using SV.casesOn with
 |vlist xs=>
  obtain⟨qs,e1,e⟩:=zz e
  obtain⟨e2,e⟩:=zv e
  cases e
  obtain⟨hd,k⟩:=k
  obtain rfl:=fracs_inv e1
  have hl:qs.length<64:=Nat.lt_succ_of_le (Nat.le_of_ble_eq_true e2)
  refine wg (R:=(· ≤·)) (d:=0) (lt:=fun a b=>decide (a<b)) (fun a b h=>Rat.not_lt.mp (of_decide_eq_false h)) ok q hl (fun z1 vs b s1 P E' ok1 hz hv ⟨G,j⟩ ho hP=> ?_) fun bs h1 h2=>allQ_of k bs h1.length_eq h1 h2
  have el:qs.length=vs.length:=(List.length_map (f:=SV.frac)).symm.trans hv.length
  refine lsort_ok (κ:=oneType') (ord_rat _) (.head _) j ho (el▸hl) (fun h2 s1 Q ⟨G1,j1⟩ hQ=>kas_kind (T:= .ref CF) h2 (fun v hm=> ?_) (by decide) (by decide) hQ) (fun i j s1 C hi hj ⟨G1,j1⟩ lv kC=> ?_) hP
  ·obtain⟨i,hi,rfl⟩:=mem_at hm
   have ok2:=j1.step.ok ok1
   have qv:=(j1.step.val (hv.atM (d:=0) hi)).inv
   generalize vs.getD i .none=v at qv
   rcases qv with⟨g1,g2,_⟩
   exact(yo (ok2.rep.sub _ _ g1) (ok2.rep.sub _ _ g2)).type
  ·have den:∀i,i<vs.length→(qs.getD i 0).den<2^64:=fun i hi=>hd _ (List.mem_of_getElem? (zN (el.symm▸hi)))
   exact frac_lt (d:=d) (ha.of (A':=A.in1.in1) (x:=0) (y:=2) rfl rfl rfl (by decide) (by decide)|>.mono (Nat.le_succ _)) ok1 j1 lv (den i hi) (den j hj) (hv.atM hi) (hv.atM hj) kC
 |_=>exact(zu rfl e).elim
end
theorem set_len:typeLookup (.type "set") "__len__"=pure (some (.builtin "set.__len__")):=by rw [typeLookup_type,builtinLookup_eq_fast];kernel_rfl
theorem set_split:splitId "set.__len__"=some ("set","__len__"):=by kernel_rfl
section
variable {w:World}{d:Nat}{z:Z}{A:Around}{E:Value→Shared→Prop}{v:Value}{led:Bool}{xs:List Int}
theorem hint_set{s:Shared}{a:Addr}{Q:Bool→Shared→Prop}(hT:s.TypeIs (.ref a) "set")(k:Q false s):wpAny (model pw w) A (Builtin.List.listLengthHint (.ref a)) Q E s:=by
 refine wpAny_bind (wpAny_specialOf hT set_len ?_)
 dsimp only
 rw [set_split]
 exact wpAny_bind (m:=isInstance _ _) (wpAny_isInstance hT PySem.sub_set_self (zG rfl (wp_ifT (by decide+kernel) (wpAny_bind (m:=typeOf _) (wpAny_typeOf hT (wpAny_pure k))))))
theorem collect_set{Q:List Value→Shared→Prop}(ha:AOk (d+1) A)(ok:Ok w z)(q:VRel z.y (.vset led xs) v)(hl:led= !zy w)(h:∀(ys:List Int) vs G s,ys.Perm xs→Step z ⟨G,z.ρ,z.st,s⟩→VRels ⟨G,z.ρ,z.st.nx⟩ (ys.map SV.sint) vs→Q vs s):wpAny (model pw w) A (collect v) Q E z.s:=by
 have r:=ok.rep
 rcases q.inv with @⟨a,o,g,hs⟩
 have e:=r.sub _ _ g
 unfold collect
 refine wpAny_bind (wpAny_runValue (codeAny_builtin F.entry_proto_collect ?_))
 rw [Around.under_plainId F.plain_proto_collect _]
 show wpAny _ A.in1 (newList []>>=fun l=>again (.builtin "list.__iadd__" ⟨[l,.ref a],[]⟩)) _ _ z.s
 refine wpAny_bind (wpAny_newObj_type ?_)
 refine wpAny_pure ⟨plainId_quiet F.plain_list_iadd _,codeAny_builtin F.entry_list_iadd ?_⟩
 rw [Around.under_plainId F.plain_list_iadd _]
 obtain⟨ρ1,hS,hlow,S1⟩:=r.pushL
 have hT:Shared.TypeIs {z.s with heap:=z.s.heap.push (seqObj "list" #[] 0)} (.ref a) "set":=⟨o,Heap.get?_push_of_some _ e,hs.type⟩
 have ne:z.new≠a:=fun q=>zu (zh z.s.heap) ((show z.s.heap.objs.size=a from q).symm▸e)
 show wpAny _ A.in1 (Builtin.List.listExtendWith (.ref z.new) (.ref a) (.ref z.new)) _ _ {z.s with heap:=z.s.heap.push (seqObj "list" #[] 0)}
 unfold Builtin.List.listExtendWith
 refine wpAny_bind (wpAny_typeOf hT (zG ?_ ?_))
 ·show((BEq.beq z.new a||_)||_)=false
  rw [beq_false_of_ne ne];rfl
 have o1:=S1.ok ok
 have sm:smallL xs:=hs.1
 refine wpAny_bind (m:=pyIter (.ref a)) (wpAny_mono (iterS_ok.iter (.vset led xs) _ (fun x' st'=>(∃ys:List Int,x'= .iset ys∧ys.Perm xs)∧st'=z.st.push (.list [])) ⟨z.G,ρ1,z.st.push (.list []),_⟩ _ _ _ rfl ⟨hl,all_N (fun ys hy=>⟨⟨ys,rfl,hy⟩,rfl⟩) _⟩ (S1.val q) (ha.of (A':=A.in1) (x:=0) (y:=1) rfl rfl rfl (by decide) (by decide)) o1) (fun it s p=> ?_) fun _ _ e=>e)
 cases p with
 | @mk z2 x' _ L k2=>
  obtain⟨⟨ys,rfl,hy⟩,e2⟩:=k2
  have S2:=L.step
  rcases((S1.trans S2).val q).inv with⟨g2,_⟩
  have hT2:z2.s.TypeIs (.ref a) "set":=⟨o,(S1.trans S2).rep.sub _ _ ((S1.trans S2).le.ext _ _ g),hs.type⟩
  refine wpAny_bind (wpAny_holding (hint_set hT2 ?_))
  refine wp_ifT (by decide+kernel) ?_
  obtain⟨G2,ρ2,st2,s2⟩:=z2
  obtain rfl:st2=z.st.push (.list []):=e2
  have hρ:ρ2 z.st.nx=z.new:=(S2.le.rho _ (Nat.lt_succ_self _)).trans hS
  obtain⟨vs0,c0,ho,hr⟩:=S2.rep.list_of y7
  obtain rfl:vs0= #[]:=Array.toList_inj.mp hr.nil_inv
  replace ho:s2.heap.get? z.new=some (seqObj "list" #[] c0):=(congrArg _ hρ).symm.trans ho
  have e1:=get?_update_seq ho (·.push .none)
  have e3:=get?_update_seq e1 (·.pop)
  refine wpAny_bind (m:=rule _) (wpAny_rule (wpAny_bind (m:=Builtin.List.listTouch _) ?_))
  refine wpAny_bind (m:=updateSeq _ _) (wpAny_updateSeq ho rfl (wpAny_updateSeq e1 rfl (wpAny_pure ⟨plainId_quiet F.plain_extend_loop _,?_⟩)))
  have T:=S2.rep.turn (s:={s2 with heap:=(s2.heap.update z.new (Obj.mapSeq (·.push .none))).update z.new (Obj.mapSeq (·.pop))}) y7 (fun b n=>(Heap.get?_update_other _ _ (fun q=>n (q.symm.trans hρ.symm))).trans (Heap.get?_update_other _ _ (fun q=>n (q.symm.trans hρ.symm)))) ((congrArg _ hρ).trans e3) (.list (vs:= #[]) .nil) .heap
  rw [St.push_put]at T
  refine Eq.mp (congrArg (fun q=>codeAny _ A (.builtin "list.extend.loop" ⟨[.ref q,it,.ref q],[]⟩) _ _) hρ) (ext_loop (ρ:=ρ2) (stb:=z.st) (ys:=ys.map SV.sint) (fun k st=> ?_) ?_ (ha.of (A':=A.in1) (x:=0) (y:=1) rfl rfl rfl (by decide) (by decide)) o1 (fun G s S=> ?_) (ys.map SV.sint).length 0 _ _ rfl (L.go T))
  ·show some (ys[k]?.map SV.sint)=some (ys.map SV.sint)[k]?
   rw [List.getElem?_map]
  ·exact Nat.lt_of_le_of_lt (Nat.le_trans (Nat.le_of_eq ((List.length_map ..).trans hy.length_eq)) sm.four) (by decide)
  ·obtain⟨vs,c,h1,h2⟩:=S.rep.list_of y7
   refine wpAny_bind (m:=load _) (wpAny_load h1 (wpAny_pure (h ys vs.toList G s hy (Step.same2 r (.refl r) (S1.trans S) (fun i hi=>(S.le.rho i (Nat.lt_succ_of_lt hi)).trans (hlow i hi)) fun i so e=> ?_) (h2.move (ze (fun _=>rfl) _)))))
   obtain⟨_,v⟩:=r.own i so e
   exact(zn ..).trans ((if_neg (Nat.ne_of_lt v.lt)).trans e)
noncomputable def sortS(w:World)(x:SV)(st:St):Tr:=(wq x).bind fun p=>some fun K=>p.1=(!zy w)∧∀bs:List Int,bs.Perm p.2→bs.Pairwise (· ≤·)→K (.vlist (bs.map SV.sint)) st
theorem sortS_ok:BTOk w (d+2) (.builtin "sorted") (b1 (sortS w)):=yx fun x t K z v e k q A E ha ok=>by
 obtain⟨p,e1,e⟩:=zz e
 cases e
 obtain⟨hl,k⟩:=k
 obtain rfl:=yT e1
 have sm:smallL p.2:=let⟨_,hs⟩:=q.inv;hs.1
 refine call_function_entry_kw kind_sorted plain_sorted entry_sorted (args_sorted1 _) ?_
 unfold Builtin.«sorted»
 refine wpAny_bind (m:=checkCount "sorted" 1 1 _) (wpAny_pure ?_)
 refine wpAny_bind (collect_set (ha.of (A':=A.in1) (x:=0) (y:=1) rfl rfl rfl (by decide) (by decide)) ok q hl fun ys vs G s hy S hv=> ?_)
 have e:(ys.map SV.sint).length=ys.length:=List.length_map ..
 have h64:ys.length<64:=Nat.lt_of_le_of_lt (Nat.le_trans (Nat.le_of_eq hy.length_eq) sm.four) (by decide)
 exact xJ (z:=⟨G,z.ρ,z.st,s⟩) S.rep hv (ze (fun _=>rfl) _) (hv.length▸e.symm▸h64) args_list_sort (fun b s1 P E' j ho hP=>ints_sort h64 _ vs b s1 P E' (S.ok ok) rfl hv j ho hP) fun v G2 s2 p h1 h2 T q=>.mk (S.trans T) q (outG_map (d:=(0:Int)) (e▸h1)▸k _ ((xB (e▸h1)).trans hy) (up_pair (e▸h1) (e▸h2) fun i j h=>Int.not_lt.mp (of_decide_eq_false h)))
end
noncomputable def mx2(a q:Rat):Rat:=if a<q then q else a
noncomputable def mxL:List Rat→Rat
 | []=>0
 |q::r=>r.foldl mx2 q
noncomputable def maxF(x:SV)(st:St):Tr:=match x with
 | .vlist xs=>(zJ asF xs).bind fun qs=>zj (!qs.isEmpty) (some fun K=>(∀q∈qs,q.den<2^64)∧K (.frac (mxL qs)) st)
 |_=>none
theorem max1_ok(a:Value):argsOk "max" ⟨[a],[]⟩:=by unfold argsOk;kernel_rfl
theorem max_name:(toString "max"++toString ".loop":String)="max.loop":=by decide
section
variable {w:World}{d:Nat}{A:Around}{E:Value→Shared→Prop}{zb z:Z}{it:Value}{S:Addr}{R:Result→Shared→Prop}{stb:St}{qs rs:List Rat}{k:Nat}{m q:Rat}
theorem best_at{l:List Rat}{z:Z}(r:Rep z)(hz:z.st=stb.push (.list (l.map SV.frac)))(hS:z.ρ stb.nx=S):∃vs c,Has z.st stb.nx (.list (l.map SV.frac))∧z.At S (W.listOf vs c)∧VRels z.y (l.map SV.frac) vs.toList:=
 have h0:Has z.st stb.nx (.list (l.map SV.frac)):=hz▸y7
 let⟨vs,c,h1,h2⟩:=r.list_of h0
 ⟨vs,c,h0,hS▸h1,h2⟩
theorem best_turn{l:List SV}{z:Z}(r:Rep z){l0:List Rat}(h2:l0.length≤2)(hz:z.st=stb.push (.list (l0.map SV.frac)))(hS:z.ρ stb.nx=S){us:Array Value}(hu:us.size≤2)(hr:VRels z.y l us.toList){α:Type}{Q:α→Shared→Prop}{t:Unit→Sem α}
  (h:∀s,Step z ⟨z.G,z.ρ,stb.push (.list l),s⟩→wpAny (model pw w) A (t ()) Q E s):wpAny (model pw w) A (updateSeq S (fun _=>us)>>=t) Q E z.s:=by
 obtain⟨vs,c,h0,h1,h3⟩:=best_at r hz hS
 have T:=upd_list r h0 (hS▸h1) (fun _=>us) (ys:=l) hr
 rw [hz,St.push_put]at T
 exact wpAny_bind (wpAny_updateSeq h1 rfl (h _ (hS▸T)) (hz:=Nat.le_trans (Nat.le_of_eq h3.size.symm) (Nat.le_trans (Nat.le_of_eq (List.length_map ..)) (Nat.le_trans h2 (sizeLine_eq▸by decide)))) (_hz':=Nat.le_trans hu (sizeLine_eq▸by decide)))
theorem max_loop{zb:Z}(hA:AOk (d+2) A.in1)(ob:Ok w zb)(hd:∀q∈qs,q.den<2^64)
  (hR:∀z' l v,Step zb z'→z'.st=stb.push (.list l)→VRel z'.y (.frac m) v→R (.ok (.ret v)) z'.s) (rs:List Rat):∀(k:Nat) (z:Z) (l0:List Rat),qs.drop k=rs→(l0=[]∧mxL rs=m∧rs≠[]∨∃q,q∈qs∧l0=[q,q]∧rs.foldl mx2 q=m)→LInv w (d+2) zb (.vlist (qs.map SV.frac)) it k z→z.st=stb.push (.list (l0.map SV.frac))→z.ρ stb.nx=S→
   codeAny (model pw w) A (.builtin "max.loop" ⟨[it,.none,.ref S],[]⟩) R z.s:=by
 induction rs with
 |nil=>
  intro k z l0 e h ⟨_,I⟩ hz hS
  obtain⟨q,_,rfl,hm⟩:=h.resolve_left fun h=>h.2.2 rfl
  obtain rfl:q=m:=hm
  refine codeAny_builtin F.entry_max_loop ?_
  rw [Around.under_plainId F.plain_max_loop _]
  obtain⟨vs,c,_,h1,h2⟩:=best_at I.step.rep hz hS
  obtain⟨v,u,hv,q1,_⟩:=h2.two
  obtain rfl:vs=[v,u].toArray:=Array.toList_inj.mp hv
  refine wpAny_bind (m:=seqItems? _) (wpAny_seqItems h1 rfl ?_)
  refine wpAny_bind (wpAny_tryCatch (I.turnL (y:=none) hA (I.step.ok ob) ?_ (fun _ G s T le=> ?_) fun _ _ _ _ e=>nomatch e))
  ·show some (qs.map SV.frac)[k]? =some none
   rw [List.getElem?_map,show qs[k]? =none by rw [←Nat.add_zero k,←List.getElem?_drop,e];rfl];rfl
  ·exact best_turn (z:=⟨G,z.ρ,z.st,s⟩) (l0:=[q,q]) (l:=[]) (us:= #[]) T.rep (Nat.le_refl 2) hz hS (Nat.zero_le _) .nil fun s2 T2=>wpAny_bind (wpAny_letGo (wpAny_pure (hR _ [] v (T.trans T2) rfl (T2.val (q1.mv le (.inl rfl))))))
 |cons p rs ih=>
  intro k z l0 e h ⟨y0,I⟩ hz hS
  have hp:qs[k]? =some p:=by rw [←Nat.add_zero k,←List.getElem?_drop,e];rfl
  have e2:qs.drop (k+1)=rs:=by rw [←List.drop_drop,e];rfl
  have mp:=List.mem_of_getElem? hp
  refine codeAny_builtin F.entry_max_loop ?_
  rw [Around.under_plainId F.plain_max_loop _]
  obtain⟨vs,c,_,h1,h2⟩:=best_at I.step.rep hz hS
  refine wpAny_bind (m:=seqItems? _) (wpAny_seqItems h1 rfl ?_)
  refine wpAny_bind (wpAny_tryCatch (I.turnL (y:=some (.frac p)) hA (I.step.ok ob) ?_ (fun q=>nomatch q) fun _ v G s ev T hv le=> ?_))
  ·show some (qs.map SV.frac)[k]? =_
   rw [List.getElem?_map,hp];rfl
  ·cases ev
   have go:∀{z':Z} {q:Rat},LIv w (d+2) zb y0 (.vlist (qs.map SV.frac)) it (k+1) z'→q∈qs→rs.foldl mx2 q=m→z'.st=stb.push (.list ([q,q].map SV.frac))→z'.ρ stb.nx=S→codeAny (model pw w) A (.builtin "max.loop" ⟨[it,.none,.ref S],[]⟩) R z'.s:=fun I' mq hm hz hS=>ih (k+1) _ [_,_] e2 (.inr ⟨_,mq,rfl,hm⟩) ⟨_,I'⟩ hz hS
   rcases h with⟨rfl,hm,_⟩|⟨q,mq,rfl,hm⟩
   ·obtain rfl:vs= #[]:=Array.toList_inj.mp h2.nil_inv
    refine best_turn (z:=⟨G,z.ρ,z.st,s⟩) (l0:=[]) (l:=[p,p].map SV.frac) (us:= #[v,v]) T.step.rep (Nat.zero_le _) hz hS (Nat.le_refl 2) (.cons hv (.cons hv .nil)) fun s2 T2=> ?_
    rw [max_name]
    exact wpAny_pure ⟨plainId_quiet F.plain_max_loop _,go (T.move T2 (T.step.trans T2) rfl rfl (T.le.trans T2.le) fun _ h=>h) mp hm rfl hS⟩
   ·obtain⟨v0,u0,hv0,_,q1⟩:=h2.two
    obtain rfl:vs=[v0,u0].toArray:=Array.toList_inj.mp hv0
    have q1:=q1.mv (y':=⟨G,z.ρ,z.st.nx⟩) le (.inl rfl)
    have C:W w (d+2) VRel (fun x st=>st=z.st∧x= .sbool (decide (q<p))) ⟨G,z.ρ,z.st,s⟩ (compareOp .Gt v u0):=fracO_ok (.cmp .Gt) [.frac p,.frac q] _ _ _ _ rfl ⟨⟨hd p mp,hd q mq⟩,rfl,rfl⟩ (.cons hv (.cons q1 .nil))
    refine wpAny_bind (wpAny_pure ?_)
    refine wpAny_bind (wpAny_tryCatch (wpAny_holding (wpAny_bind (m:=richCompare .Gt v u0) (C.go (T.step.ok ob) hA fun z2 x b S2 o2 qx kx=> ?_))))
    obtain⟨e3,rfl⟩:=kx
    obtain rfl:=qx.inv
    have I2:=T.move S2 (T.step.trans S2) rfl rfl (T.le.trans S2.le) fun _ h=>h
    have hS2:z2.ρ stb.nx=S:=(S2.le.rho _ (show stb.nx<z.st.nx from hz▸Nat.lt_succ_self _)).trans hS
    refine wpAny_bind (wpAny_holding (wpAny_truthy_bool (wpAny_bind (wpAny_letGo (wpAny_pure ?_)))))
    by_cases hb:q<p
    ·rw [decide_eq_true hb]
     refine best_turn (l0:=[q,q]) (l:=[p,p].map SV.frac) (us:= #[v,v]) o2.rep (Nat.le_refl 2) (e3.trans hz) hS2 (Nat.le_refl 2) (.cons (S2.val hv) (.cons (S2.val hv) .nil)) fun s2 T2=> ?_
     refine wpAny_bind (wpAny_letGo ?_)
     rw [max_name]
     refine wpAny_pure ⟨plainId_quiet F.plain_max_loop _,go (I2.move T2 (I2.step.trans T2) rfl rfl (I2.le.trans T2.le) fun _ h=>h) mp ?_ rfl hS2⟩
     rw [←hm];show _=rs.foldl mx2 (mx2 q p);unfold mx2;rw [if_pos hb]
    ·rw [decide_eq_false hb]
     refine wpAny_bind (wpAny_letGo ?_)
     rw [max_name]
     refine wpAny_pure ⟨plainId_quiet F.plain_max_loop _,go I2 mq ?_ (e3.trans hz) hS2⟩
     rw [←hm];show _=rs.foldl mx2 (mx2 q p);unfold mx2;rw [if_neg hb]
theorem maxF_ok:BTOk w (d+3) (.builtin "max") (b1 maxF):=yx fun x t K z v e k q A E ha ok=>by
 induction x using SV.casesOn with
 |vlist xs=>
  obtain⟨qs,e1,e⟩:=zz e
  obtain⟨h0,e⟩:=zv e
  cases e
  obtain⟨hd,k⟩:=k
  obtain rfl:=fracs_inv e1
  have hA:AOk (d+2) A.in1:=ha.of (A':=A.in1) (x:=0) (y:=1) rfl rfl rfl (by decide) (by decide)
  refine kmb_tree F.kind_max F.plain_max F.entry_max (max1_ok _) ?_
  show wpAny _ A.in1 (Builtin.Builtins.bindParams "max" ["key","default"] 0 ⟨[],[]⟩>>=_) _ _ z.s
  refine wpAny_bind (wpAny_of_eq (show Builtin.Builtins.bindParams "max" ["key","default"] 0 ⟨[],[]⟩=pure [none,none]from rfl) (wpAny_bind (wpAny_pure ?_)))
  refine wpAny_bind (m:=pyIter v) (wm (xG.iter (.vlist (qs.map SV.frac)) _ (fun x st=>x= .vlist (qs.map SV.frac)∧st=z.st) z v _ _ rfl ⟨rfl,rfl⟩ q hA ok) fun it s p=> ?_)
  cases p with
  | @mk z2 x' _ L k2=>
   obtain⟨rfl,e2⟩:=k2
   have S1:=L.step
   refine wpAny_bind (wpAny_newList ?_ (Nat.zero_le _))
   have S2:=S1.rep.pushO (o:=seqObj "list" #[] 0) (so:= .list []) rfl (.list (vs:= #[]) (k:=0) .nil)
   rw [max_name]
   refine wpAny_pure ⟨plainId_quiet F.plain_max_loop _,max_loop (stb:=z.st) (m:=mxL qs) (zb:=z) hA ok hd (fun z' l v S h q=>.mk (z':=⟨z'.G,z.ρ,z.st,z'.s⟩) (Step.same ok.rep S ?own) (q.mv (fun _ _ e=>e) (.inl rfl)) k) qs 0 ⟨z2.G,xM z2.ρ z2.st.nx z2.new,z2.st.push (.list []),_⟩ [] rfl (.inl ⟨rfl,rfl,?ne⟩) (L.go S2) (e2▸rfl) (by rw [←e2];exact zQ)⟩
   case ne=>exact fun h=>by rw [h]at h0;exact Bool.noConfusion h0
   case own=>
    intro i so e
    obtain⟨_,v⟩:=ok.rep.own i so e
    rw [h]
    exact(zn ..).trans ((if_neg (Nat.ne_of_lt v.lt)).trans e)
 |_=>exact(zu rfl e).elim
end
section
variable {w:World}{d:Nat}{z:Z}{K:KV}{A:Around}{E:Value→Shared→Prop}
theorem fracs_but{G:GH}{ρ ρ':Nat→Addr}{n n' c:Nat}{a:Addr}{qs:List Rat}{us:Array Value}{u:Value}(ha:G a=some (W.listOf us c))(hx:us.size≠qs.length)(q:VRel ⟨G,ρ,n⟩ (.vlist (qs.map SV.frac)) u):VRel ⟨fun b=>if b=a then none else G b,ρ',n'⟩ (.vlist (qs.map SV.frac)) u:=by
 have keep:∀{b o},G b=some o→o≠W.listOf us c→(if b=a then none else G b)=some o:=fun{b o} e n=>(if_neg fun q:b=a=>n (Option.some.inj (e.symm.trans (q.symm▸ha)))).trans e
 rcases q.inv with⟨p,@⟨b,vs,k,g,h⟩⟩
 refine .vlist p (vs:=vs) (k:=k) (keep g fun e=>hx ?_) (.of h.length fun i x e=> ?_)
 ·obtain rfl:vs=us:=by injection e with _ _ e;injection e
  exact h.size.symm.trans (List.length_map ..)
 ·obtain⟨r,_,rfl⟩:=map_get? e
  have q:=h.get i _ e
  generalize vs.toList.getD i .none=v at q
  rcases q.inv with⟨g1,g2,g3⟩
  refine .frac (keep g1 fun e=> ?_) (keep g2 fun e=> ?_) g3
  ·injection e with e;nomatch e
  ·obtain⟨_,_,e',_⟩:=g3
   rw [e]at e';nomatch e'
theorem W.lend{i:Nat}{xs:List SV}{qs:List Rat}{t:Sem Value}(hh:Has z.st i (.list xs))(hp:zt xs=true)(hx:xs.length≠qs.length)(h:∀G,(∀b o,z.G b=some o→G b=some o)→VRel ⟨G,z.ρ,4⟩ (.vlist xs) (.ref (z.ρ i))→W w d VRel (fun v st=>v= .vlist (qs.map SV.frac)∧st=st0) ⟨G,z.ρ,st0,z.s⟩ t)(k:K (.vlist (qs.map SV.frac)) z.st):W w d VRel K z t:=fun A E ha ok=>by
 have r:=ok.rep
 obtain⟨vs,c,ho,hr⟩:=r.list_of hh
 obtain⟨_,wi⟩:=r.own i _ hh
 have F:=r.freeze hh ho
 have r0:=F.rep.inner 4
 have ne:∀{b o},z.G b=some o→b≠z.ρ i:=fun e q=>zu wi.gn (q▸e)
 refine(h (xm z.G (z.ρ i) _) (fun b o e=>F.le.ext b o e) (.vlist hp (vs:=vs) (k:=c) (if_pos rfl) ((F.vals hr).move hp))).go ⟨r0,fun b o e=>F.le.ext b o (ok.base b o e)⟩ ha fun z1 v u S o1 q ⟨e1,e2⟩=> ?_
 subst e1
 have gi:z1.G (z.ρ i)=some (W.listOf vs c):=S.le.ext _ _ (if_pos rfl)
 have out:∀{b o},z.At b o→b∉bases→z1.At b o∧z1.G b=xm z.G (z.ρ i) (W.listOf vs c) b:=fun e m=>let⟨p,_,q⟩:=S.out _ _ e ⟨fun _ _ h=>(nomatch h),m⟩;⟨p,q⟩
 have le:Le z.y ⟨fun b=>if b=z.ρ i then none else z1.G b,z.ρ,z.st.nx⟩:=⟨Nat.le_refl _,fun _ _=>rfl,fun b o e=>(if_neg (ne e)).trans (S.le.ext b o ((if_neg (ne e)).trans e))⟩
 have own:∀j so,Has z.st j so→∃o,z.At (z.ρ j) o∧Own ⟨fun b=>if b=z.ρ i then none else z1.G b,z.ρ,z.st,z1.s⟩ j so o:=fun j so e=>by
  obtain⟨o,v⟩:=r.own j so e
  obtain⟨a,b⟩:=out v.hp fun m=>let⟨_,t⟩:=r.tab _ m;t.ow j so e rfl
  refine⟨o,v.hp,v.lt,?_,a,v.rel.mono le⟩
  by_cases q:z.ρ j=z.ρ i
  ·exact if_pos q
  ·exact(if_neg q).trans (b.trans ((if_neg q).trans v.gn))
 refine .mk (z':=⟨fun b=>if b=z.ρ i then none else z1.G b,z.ρ,z.st,z1.s⟩) ⟨⟨fun b o e=> ?_,fun j so e=>let⟨o,_,v⟩:=own j so e;⟨o,v⟩,r.inj,fun b m=> ?_⟩,le,fun b o e n=> ?_,fun j so e=>let⟨o,v,u⟩:=own j so e;⟨⟨o,v⟩,o,u.hp⟩,S.gs⟩ (fracs_but gi ?_ q) k
 ·by_cases q:b=z.ρ i
  ·exact nomatch (if_pos q).symm.trans e
  ·exact S.rep.sub b o ((if_neg q).symm.trans e)
 ·obtain⟨o,t⟩:=S.rep.tab b m
  obtain⟨_,t0⟩:=r.tab b m
  refine⟨o,t.at',t.tab,?_,t0.ow⟩
  show(if _ then _ else _)=none
  split
  ·rfl
  ·exact t.gn
 ·obtain⟨p,q⟩:=out e n.2
  exact⟨p,n,(if_neg (n.1 i _ hh).symm).trans (q.trans (if_neg (n.1 i _ hh).symm))⟩
 ·exact hr.size▸hx
end
noncomputable def pair3(xs:List SV):Option SV:=match xs with
 | [_,_,c]=>some c
 |_=>none
noncomputable def mgN(w:World):BT:=fun xs ks st=>(pair3 xs).bind fun c=>(xx c).bind fun i=>(zA st i).bind fun us=>some fun K=>∃s vs l,(xs=[.vinst 252 (mfs s),zw (!zy w) vs,.ref i]∧us=l.map SV.int∧ks=[]∧zq vs∧s∈four∧l∈ls7)∧K (.vlist (six (mgR s vs l))) st
theorem mgN_ok(w:World)(d:Nat):BTOk w (d+20) (.ref 327) (mgN w):=fun xs ks t K z vs kvs e k q qk=>by
 obtain⟨c,e1,e⟩:=zz e
 obtain⟨i,e2,e⟩:=zz e
 obtain⟨us,e3,e⟩:=zz e
 cases e
 obtain⟨s,ws,l,⟨rfl,rfl,rfl,hv,hs,hl⟩,k⟩:=k
 obtain⟨v1,v2,v3,rfl,q1,q2,q3⟩:=q.three
 obtain⟨_,rfl⟩:=q3.inv
 obtain rfl:=qk.nil_inv
 refine W.lend (qs:=(List.range 6).map (mgR s ws l)) (zB e3) (ze (fun _=>rfl) l) (fun e=> ?_) (fun G hG q3=> ?_) ?_
 ·have:=(ls7_of hl).1
  rw [List.length_map,List.length_map]at e
  rw [e]at this
  exact absurd this (by decide)
 ·rw [List.map_map]
  exact mgH_ok w d _ [] _ _ _ _ _ rfl ⟨s,ws,l,⟨rfl,rfl,hv,hs,hl⟩,rfl,rfl⟩ (.cons (q1.mv hG (.inl rfl)) (.cons (q2.mv hG (.inl rfl)) (.cons q3 .nil))) .nil
 ·rw [List.map_map];exact k
noncomputable def dK:List Str:=["next_cand","tied_cands","delta_score"]
noncomputable def dctQ(w:World):List Addr→Obj→Prop:=fun as o=>o.IsDictOf (strKind pw w) (dK.zip (as.map Value.ref))
noncomputable def dp(a b:Nat):Pos:=⟨574,a,574,b⟩
noncomputable def seqD:Expr:= .Dict [some (.Constant (.str "next_cand") 0 (dp 21 32)),some (.Constant (.str "tied_cands") 0 (dp 38 50)),some (.Constant (.str "delta_score") 0 (dp 56 69))] [.List [] (dp 34 36),.List [] (dp 52 54),.List [] (dp 71 73)] (dp 20 74)
noncomputable def isD3(e:Expr):Bool:=match e with
 | .Dict ks _ _=>Nat.beq ks.length 3
 |_=>false
noncomputable def dct3(w:World)(e:Expr)(_:FrS)(st:St):Option (KV→Prop):=zj (isD3 e) (some fun K=>e=seqD∧K (.ref (st.nx+3)) ((((st.push (.list [])).push (.list [])).push (.list [])).push (.gen [st.nx,st.nx+1,st.nx+2] (dctQ w))))
noncomputable def keyAt(k:Str):List Str→List Nat→Option Nat
 |x::r,i::is=>match x==k with
  |true=>some i
  |false=>keyAt k r is
 |_,_=>none
noncomputable def genL(st:St)(i:Nat):Option (List Nat×(List Addr→Obj→Prop)):=match st.own.lookup i with
 |some (.gen is q)=>some (is,q)
 |_=>none
noncomputable def subD(w:World):Unit→SV→SV→St→Tr:=fun _ x i st=>(asS i).bind fun k=>(xx x).bind fun d=>(genL st d).bind fun p=>(keyAt k dK p.1).bind fun j=>some fun K=>p.2=dctQ w∧K (.ref j) st
noncomputable def subZ:Unit→SV→SV→St→Tr:=fun _ x i st=>(xx x).bind fun a=>(zA st a).bind fun xs=>(w9 i).bind fun k=>zj (k==0) (some fun K=>∃n,(xs[0]? =some (.int n)∧xs.length≤1000000)∧K (.int n) st)
section
variable {w:World}{d:Nat}{z:Z}{K:KV}{A:Around}{E:Value→Shared→Prop}
theorem list_disp{z:Z}{env:Env}{fr:FrS}{p:Pos}{tk:Nat}{Q:Value→Shared→Prop}(ok:Ok w z)(ha:AOk d A)(ev:EnvOk z.y fr env)(h:∀z',Step z z'→z'.st=z.st.push (.list [])→Q (.ref (z'.ρ z.st.nx)) z'.s):wpAny (model pw w) A (eval (.List [] p) env) Q E {z.s with toks:=tk}:=
 have T:Step z (z.sh {z.s with toks:=tk}):=ok.rep.grow (fun _ _ e=>e) (.same rfl rfl)
 (ya (n:=3) (t:= .E (.List [] p) fr z.st fun v st=>v= .ref z.st.nx∧st=z.st.push (.list [])) (P0_ok w d) (show _∧_ from⟨rfl,rfl⟩) (z.sh {z.s with toks:=tk}) env rfl (T.env ev)).go (T.ok ok) ha fun z' v u S _ q k=>by
  obtain⟨rfl,k2⟩:=k
  exact q.inv.2▸h z' (T.trans S) k2
theorem dct_made{fr:FrS}{env:Env}{Q:Value→Shared→Prop}{a b c:Str}{p1 p2 p3 p4 p5 p6 p:Pos}{ks:List (Option Expr)}{vs:List Expr}(hks:([some (.Constant (.str a) 0 p1),some (.Constant (.str b) 0 p2),some (.Constant (.str c) 0 p3)]:List (Option Expr))=ks)(hvs:([.List [] p4,.List [] p5,.List [] p6]:List Expr)=vs)(hn:[a,b,c].Nodup)(ok:Ok w z)(ha:AOk d A)(ev:EnvOk z.y fr env)
  (hQ:∀z3 h' tk o,Step z z3→z3.st=((z.st.push (.list [])).push (.list [])).push (.list [])→z3.G z.new=none→z3.Out z.new→Heap.SameBut z.new z3.s.heap h'→h'.get? z.new=some o→o.IsDictOf (strKind pw w) [(a,.ref (z3.ρ z.st.nx)),(b,.ref (z3.ρ (z.st.nx+1))),(c,.ref (z3.ρ (z.st.nx+2)))]→Q (.ref z.new) {z3.s with heap:=h',toks:=tk}):wpAny (model pw w) A (eval (.Dict ks vs p) env) Q E z.s:=by
 have q1:ks≠[]:=hks▸List.cons_ne_nil _ _
 have q2:ks.length≤15∧ks.all (·.isSome)=true∧ks.length=vs.length:=hks▸hvs▸⟨Nat.le_of_ble_eq_true rfl,rfl,rfl⟩
 refine wpAny_Dict_walk (keys:=ks) (values:=vs) (knd:=strKind pw w) q2.2.1 q2.2.2 q1 q2.1 ?_
 rw [←hks,←hvs]
 have S0:Step z (z.hp (z.s.heap.push {cls:= .type "dict",data:= .dict #[]})):=ok.rep.grow (fun _ _ e=>Heap.get?_push_of_some _ e) .heap
 refine pairTrees_cons_walk (wpAny_Constant_str (list_disp (z:=z.hp _) (S0.ok ok) ha (S0.env ev) fun z1 S1 e1=> ?_))
 refine pairTrees_cons_walk (wpAny_Constant_str (list_disp ((S0.trans S1).ok ok) ha ((S0.trans S1).env ev) fun z2 S2 e2=> ?_))
 refine pairTrees_cons_walk (wpAny_Constant_str (list_disp ((S0.trans (S1.trans S2)).ok ok) ha ((S0.trans (S1.trans S2)).env ev) fun z3 S3 e3=> ?_))
 refine pairTrees_nil_walk ?_
 have T:=S1.trans (S2.trans S3)
 obtain⟨oD,gD,hD⟩:=Heap.dictOf_iff.mp (Heap.DictOf.new (knd:=strKind pw w) z.s.heap)
 have n1:z1.st.nx=z.st.nx+1:=congrArg St.nx e1
 have n2:z2.st.nx=z.st.nx+2:=(congrArg St.nx e2).trans (congrArg (· +1) n1)
 obtain⟨a3,o3,g3⟩:=T.out z.new oD gD ok.rep.free.out
 have r1:z1.ρ z.st.nx=z3.ρ z.st.nx:=((S2.trans S3).le.rho _ (show z.st.nx<z1.st.nx from n1▸Nat.lt_succ_self _)).symm
 have r2:z2.ρ (z.st.nx+1)=z3.ρ (z.st.nx+1):=(S3.le.rho _ (show z.st.nx+1<z2.st.nx from n2▸Nat.lt_succ_self _)).symm
 refine display_done_str rfl hn (Heap.dictOf_iff.mpr ⟨oD,a3,hD⟩) fun h' hm hs=> ?_
 obtain⟨o',g',hd⟩:=Heap.dictOf_iff.mp hm
 refine hQ z3 h' _ o' (S0.trans T) ?_ (g3.trans ok.rep.free.gn) o3 hs g' ?_
 ·rw [e3,e2,e1]
 ·rw [←r1,←r2,←n1,←n2];exact hd
theorem seq_nodup:[Str.ofString "next_cand",Str.ofString "tied_cands",Str.ofString "delta_score"].Nodup:=by decide+kernel
theorem dct3_ok{e:Expr}{fr:FrS}{t env}(h:dct3 w e fr z.st=some t)(k:t K)(ev:EnvOk z.y fr env):W w d VRel K z (eval e env):=fun A E ha ok=>by
 obtain⟨_,h⟩:=zv h
 cases h
 obtain⟨rfl,k⟩:=k
 refine @dct_made w d z A E fr env (Post VRel K z) (Str.ofString "next_cand") (Str.ofString "tied_cands") (Str.ofString "delta_score") (dp 21 32) (dp 38 50) (dp 56 69) (dp 34 36) (dp 52 54) (dp 71 73) (dp 20 74) _ _ rfl rfl seq_nodup ok ha ev fun z3 h' tk o S e g ou hs ho hd=> ?_
 have T:=S.poke (s:={z3.s with heap:=h',toks:=tk}) [z.new] (fun b o n e=>(hs.2 b fun q=>n (q▸List.mem_singleton_self _)).trans e) (fun b m=>List.mem_singleton.mp m▸⟨zh _,g,ou⟩) ⟨S.gs.os,S.gs.gens,S.gs.bare⟩
 have nx:z3.st.nx=z.st.nx+3:=congrArg St.nx e
 have lt:∀i∈[z.st.nx,z.st.nx+1,z.st.nx+2],i<z3.st.nx:=by
  rw [nx]
  exact List.forall_mem_cons.mpr ⟨Nat.lt_add_of_pos_right (by decide),List.forall_mem_cons.mpr ⟨Nat.add_lt_add_left (by decide) _,List.forall_mem_cons.mpr ⟨Nat.add_lt_add_left (by decide) _,fun _ h=>nomatch h⟩⟩⟩
 refine .mk (T.addO (so:= .gen [z.st.nx,z.st.nx+1,z.st.nx+2] (dctQ w)) ⟨zh _,g,ou⟩ ho (ORel.gen (q:=dctQ w) lt hd)) (.refE (Nat.lt_succ_self _) zQ) ?_
 show K (.ref z3.st.nx) (z3.st.push _)
 rw [e];exact k
theorem genL_of{st:St}{i:Nat}{p}(h:genL st i=some p):Has st i (.gen p.1 p.2):=by
 have:∀o:Option SO,(match o with|some (.gen is q)=>some (is,q)|_=>none)=some p→o=some (.gen p.1 p.2):=fun o h=>by
  induction o with
  |none=>cases h
  |some so=>induction so with
   |gen is q=>cases h;rfl
   |_=>exact(zu rfl h).elim
 exact this _ h
theorem keyAt_value{ρ:Nat→Addr}{k:Str}{j:Nat}(ks:List Str):∀{is:List Nat},keyAt k ks is=some j→valueAt (ks.zip ((is.map ρ).map Value.ref)) k=some (.ref (ρ j))∧j∈is:=by
 induction ks with
 |nil=>exact fun h=>by cases h
 |cons x r ih=>
  intro is h
  cases is with
  |nil=>cases h
  |cons i is=>
   replace h:(match x==k with|true=>some i|false=>keyAt k r is)=some j:=h
   show(List.find? (fun p=>decide (p.1=k)) ((x,Value.ref (ρ i))::r.zip _)).map _=_∧_
   by_cases e:x=k
   ·rw [e,beq_self_eq_true]at h
    cases h
    rw [List.find?_cons,decide_eq_true e]
    exact⟨rfl,.head _⟩
   ·rw [beq_false_of_ne e]at h
    obtain⟨h1,h2⟩:=ih h
    rw [List.find?_cons,decide_eq_false e]
    exact⟨h1,.tail _ h2⟩
theorem subD_ok:OpOk w d (h2 wd (subD w)):=zH (c:=fun _=>.sub) xV fun _ x i t K z v u e k q q2=>by
 obtain⟨ky,e1,e⟩:=zz e
 obtain⟨a,e2,e⟩:=zz e
 obtain⟨p,e3,e⟩:=zz e
 obtain⟨j,e4,e⟩:=zz e
 cases e
 obtain⟨hq,k⟩:=k
 obtain⟨tk,rfl⟩:=wn e1 q2
 obtain⟨_,rfl⟩:=(asRef_ok e2▸q).inv
 have hm:∀ok:Ok w z,∃o,z.At (z.ρ a) o∧(∀i∈p.1,i<z.st.nx)∧dctQ w (p.1.map z.ρ) o:=fun ok=>let⟨o,wo⟩:=ok.rep.own a _ (genL_of e3);⟨o,wo.hp,wo.rel.1,hq▸wo.rel.2⟩
 obtain⟨hv,hj⟩:=keyAt_value (ρ:=z.ρ) dK e4
 refine⟨fun A E _ ok=> ?_,fun ok=> ?_⟩<;>obtain⟨o,ho,b1,b2⟩:=hm ok
 ·exact wpAny_getItem_of (strKind_is pw w ky _) (Heap.dictOf_iff.mpr ⟨o,ho,b2⟩).mapOf hv (ok.rep.endT (.ref (b1 j hj)) k)
 ·exact⟨"dict",_,(Heap.dictOf_iff.mpr ⟨o,ho,b2⟩).mapOf.typeIs,slot_dict_getitem.lookup⟩
theorem subZ_ok:OpOk w d (h2 wd subZ):=zH (c:=fun _=>.sub) xV fun _ x i t K z v u e k q q2=>by
 obtain⟨a,e1,e⟩:=zz e
 obtain⟨xs,e2,e⟩:=zz e
 obtain⟨n,e3,e⟩:=zz e
 obtain⟨e4,e⟩:=zv e
 cases e
 obtain rfl:=eq_of_beq e4
 obtain⟨m,⟨h0,hl⟩,k⟩:=k
 obtain⟨tk,rfl⟩:=yz e3 q2
 refine⟨fun A E _ ok=> ?_,fun ok=> ?_⟩<;>obtain⟨vs,c,rfl,_,ho,hr⟩:=wa e1 e2 ok.rep q
 ·obtain⟨u,h4,h5⟩:=hr.at h0
  rw [Array.getElem?_toList]at h4
  exact wpAny_getItem_list (zU ho) (Int.le_refl 0) (by decide) h4 (ok.rep.end h5 k)
 ·exact⟨"list","list.__getitem__",(zU ho).typeIs,slot_list_getitem.lookup⟩
end
noncomputable def P23(w:World):Prims:={P14 w with
 op:=yw (h2 wd (subD w))<|yw (h2 wd subZ) (P14 w).op
 call:=zp (onA 327 (mgN w))<|zp (onB false "max" (b1 maxF)) (P14 w).call
 special:=fun e fr st=>orE (dct3 w e fr st) ((P14 w).special e fr st)}
theorem P23_ok(w:World)(d:Nat):Sound w (P23 w) (d+20):={yn w (d+1)with
 op:=subD_ok.or<|subZ_ok.or (yn w (d+1)).op
 call:=CallOk.or (BTOk.at (mgN_ok w d))<|CallOk.or (BTOk.on (ty:=false) maxF_ok) (yn w (d+1)).call
 special:=fun e fr t K z env he k ev=>(yi he).elim (fun he=>dct3_ok he k ev) fun he=>(yn w (d+1)).special e fr t K z env he k ev}
noncomputable def twoV(l:List SV):Option SV:=match l with
 | [x,_]=>some x
 |_=>none
noncomputable def endT(K:SV→Prop):KV:=fun v st=>zg ((asT v).bind twoV) fun x=>zg (y5 6 st x) fun q=>∀u,K (.tup [q.1,.top u])
noncomputable def tieN(R:Nat→Rat):List Nat→List SV→(List SV→Prop)→Prop
 | [],L,J=>J L
 |i::r,L,J=>(∀q∈(List.range 6).map R,q.den<2^64)∧True∧L.length≤1000∧tieN R r (L++condL (decide (R i=mxL ((List.range 6).map R))) (.int i)) J
noncomputable def sqR(w:World)(s:Str)(vs:List (List Int×Int))(com:List Int)(j:Nat)(J:Int→Prop):Prop:=∃s' vs' l,([.vinst 252 (mfs s),zw (!zy w) vs,.ref 6]=[.vinst 252 (mfs s'),zw (!zy w) vs',.ref 6]∧com.map SV.int=l.map SV.int∧([]:List (Str×SV))=[]∧zq vs'∧s'∈four∧l∈ls7)∧tieN (mgR s' vs' l) [0,1,2,3,4,5] [] fun L=>∃n,(L[0]? =some (.int n)∧L.length≤1000000)∧com.length≤1000000∧
 dctQ w=dctQ w∧j≤1000000∧dctQ w=dctQ w∧j≤1000000∧dctQ w=dctQ w∧(∀q∈(List.range 6).map (mgR s' vs' l),q.den<2^64)∧j≤1000000∧J n
noncomputable def sqE(w:World)(com:List Int)(K:SV→Prop):Prop:=1<64∧(∀u∈[SV.vlist (com.map SV.int)],yL w u)∧∀zs,zs.Perm ([SV.vlist (com.map SV.int)].map (yK w))→∀u,K (.tup [.vlist zs,.top u])
theorem sq_1(w:World)(K:SV→Prop)(s:Str)(vs:List (List Int×Int)):yh w (P23 w) 60 491 0 [.str s,zw (!zy w) vs,.int 1] [] st0 (endT K)=(s∈four∧seqD=seqD∧sqR w s vs [] 0 fun n=>sqE w [n] K):=by kernel_rfl
theorem sq_2(w:World)(K:SV→Prop)(s:Str)(vs:List (List Int×Int)):yh w (P23 w) 60 491 0 [.str s,zw (!zy w) vs,.int 2] [] st0 (endT K)=(s∈four∧seqD=seqD∧sqR w s vs [] 0 fun n=>sqR w s vs [n] 1 fun m=>sqE w [n,m] K):=by kernel_rfl
theorem W.baseT{w:World}{d:Nat}{z:Z}{K:KV}{t:Sem Value}(h:W w d VRel (endT fun v=>K v z.st) (z.to st0) t):W w d VRel K z t:=fun A E ha ok=>
 wm (h A E ha ⟨ok.rep.inner 4,ok.base⟩) fun v s p=>by
  cases p with
  | @mk z1 b _ S q k0=>
   obtain⟨x,e,k1⟩:=zr k0
   obtain⟨l,e0,e⟩:=zz e
   obtain⟨p,e1,k2⟩:=zr k1
   obtain rfl:=xQ e0
   rcases l with _|⟨x',_|⟨y,_|⟨_,_⟩⟩⟩<;>first|exact(zu rfl e).elim|skip
   cases e
   rcases q.inv with @⟨a,vs,c,g,hv⟩
   obtain⟨v1,v2,e2,q1,q2⟩:=hv.two
   rcases yg 6 e1 S.rep q1 with @⟨G,S3,v3,p3⟩
   exact .mk (z':=⟨G,z.ρ,z.st,z1.s⟩) ((S.trans S3).outer ok.rep) (.tup (vs:=vs) (k:=c) (S3.le.ext _ _ g) (by rw [e2];exact .cons (v3.move p3) (.cons .top .nil))) (k2 v2)
theorem mx2_ge(a q:Rat):a≤mx2 a q∧q≤mx2 a q∧(mx2 a q=a∨mx2 a q=q):=by
 unfold mx2
 by_cases h:a<q
 ·rw [if_pos h];exact⟨Rat.le_of_lt h,Rat.le_refl,.inr rfl⟩
 ·rw [if_neg h];exact⟨Rat.le_refl,Rat.not_lt.mp h,.inl rfl⟩
theorem mxL_ge{qs:List Rat}(h:qs≠[]):mxL qs∈qs∧∀q∈qs,q≤mxL qs:=by
 cases qs with
 |nil=>exact(h rfl).elim
 |cons a r=>
  have:∀(r:List Rat) (a:Rat),(r.foldl mx2 a=a∨r.foldl mx2 a∈r)∧a≤r.foldl mx2 a∧∀q∈r,q≤r.foldl mx2 a:=fun r=>by
   induction r with
   |nil=>exact fun a=>⟨.inl rfl,Rat.le_refl,fun _ h=>nomatch h⟩
   |cons b r ih=>
    intro a
    obtain⟨h1,h2,h3⟩:=ih (mx2 a b)
    obtain⟨g1,g2,g3⟩:=mx2_ge a b
    refine⟨?_,Rat.le_trans g1 h2,List.forall_mem_cons.mpr ⟨Rat.le_trans g2 h2,h3⟩⟩
    rcases h1 with e|e
    ·exact g3.imp (fun g=>e.trans g) fun g=>List.mem_cons.mpr (.inl (e.trans g))
    ·exact .inr (.tail _ e)
  obtain⟨h1,h2,h3⟩:=this r a
  exact⟨List.mem_cons.mpr h1,List.forall_mem_cons.mpr ⟨h2,h3⟩⟩
theorem tieN_of{R:Nat→Rat}{J:List SV→Prop}(hd:∀q∈(List.range 6).map R,q.den<2^64)(rs:List Nat):∀{L:List SV},L.length+rs.length≤1000→J (L++(rs.filter fun i=>decide (R i=mxL ((List.range 6).map R))).map fun i:Nat=>SV.int i)→tieN R rs L J:=by
 induction rs with
 |nil=>exact fun{L} _ h=>(congrArg J (List.append_nil L)).mp h
 |cons i r ih=>
  intro L hl h
  refine⟨hd,trivial,Nat.le_trans (Nat.le_add_right ..) hl,ih ?_ ?_⟩
  ·rw [List.length_append]
   have:(condL (decide (R i=mxL ((List.range 6).map R))) (SV.int i)).length≤1:=by
    cases decide (R i=mxL ((List.range 6).map R))
    ·exact Nat.zero_le _
    ·exact Nat.le_refl _
   exact Nat.le_trans (Nat.add_le_add_right (Nat.add_le_add_left this _) _) (Nat.le_trans (Nat.le_of_eq (Nat.add_assoc ..)) (Nat.le_trans (Nat.le_of_eq (congrArg _ (Nat.add_comm ..))) hl))
  ·rw [List.filter_cons]at h
   cases c:decide (R i=mxL ((List.range 6).map R))with
   |true=>rw [c]at h;rw [List.append_assoc];exact h
   |false=>rw [c]at h;rw [show condL false (SV.int i)=[]from rfl,List.append_nil];exact h
theorem tie_first{R:Nat→Rat}:∃n l,([0,1,2,3,4,5].filter fun i=>decide (R i=mxL ((List.range 6).map R)))=n::l∧n<6∧R n=mxL ((List.range 6).map R)∧l.length≤6:=by
 obtain⟨h1,_⟩:=mxL_ge (qs:=(List.range 6).map R) (List.cons_ne_nil _ _)
 obtain⟨i,hi,e⟩:=List.mem_map.mp h1
 have m:i∈[0,1,2,3,4,5].filter fun i=>decide (R i=mxL ((List.range 6).map R)):=List.mem_filter.mpr ⟨hi,decide_eq_true e⟩
 obtain⟨n,l,e2⟩:=List.exists_cons_of_ne_nil (List.ne_nil_of_mem m)
 have m2:=List.mem_filter.mp (e2▸List.mem_cons_self:n∈[0,1,2,3,4,5].filter fun i=>decide (R i=mxL ((List.range 6).map R)))
 refine⟨n,l,e2,List.mem_range.mp m2.1,of_decide_eq_true m2.2,?_⟩
 have:=List.length_filter_le (fun i=>decide (R i=mxL ((List.range 6).map R))) [0,1,2,3,4,5]
 rw [e2]at this
 exact Nat.le_trans (Nat.le_succ _) this
theorem mgR_Dd{s:Str}(hs:s∈four){l:List Int}{vs:List (List Int×Int)}(hv:zq vs)(i:Nat):Dd (mgR s vs l i):=by
 unfold mgR mgF
 split
 ·exact⟨420,by decide⟩
 ·exact mgQ_Dd hs hv i
theorem mgQ_pos{s:Str}(hs:s∈four){l:List Int}{vs:List (List Int×Int)}(hv:zq vs)(i:Nat):0≤mgQ s vs l i:=by
 have:∀(vs:List (List Int×Int)) (q:Rat),zq vs→0≤q→0≤vs.foldl (fun q v=>q+mv s l v i) q:=fun vs=>by
  induction vs with
  |nil=>exact fun _ _ h=>h
  |cons v vs ih=>
   refine fun q hv h=>ih _ (fun x m=>hv x (.tail _ m)) (Rat.add_nonneg h ?_)
   unfold mv
   split
   ·exact Rat.mul_nonneg (fQ_ok hs (k4_of (inter_lt hv (.head _)))).2 (Rat.intCast_nonneg.mpr (hv v (.head _)).2.2.1)
   ·exact Rat.le_refl
 exact this vs 0 hv Rat.le_refl
theorem sqR_of{w:World}{s:Str}{vs:List (List Int×Int)}{com:List Int}{j:Nat}{J:Int→Prop}(hs:s∈four)(hv:zq vs)(hc:com∈ls7)(hj:j≤1)(h:∀n∈range6,n∉com→J n):sqR w s vs com j J:=by
 have hd:∀q∈(List.range 6).map (mgR s vs com),q.den<2^64:=fun q m=>by
  obtain⟨i,_,rfl⟩:=List.mem_map.mp m
  exact Nat.lt_of_le_of_lt (mgR_Dd hs hv i).le (by decide)
 refine⟨s,vs,com,⟨rfl,rfl,rfl,hv,hs,hc⟩,tieN_of hd _ (by decide) ?_⟩
 obtain⟨n,l,e,hn,hR,hl⟩:=tie_first (R:=mgR s vs com)
 have l1:∀{k:Nat},k≤7→k≤1000000:=fun h=>Nat.le_trans h (by decide)
 have hn6:(n:Int)∈range6:=by
  have:∀n∈List.range 6,(n:Int)∈range6:=by decide
  exact this n (List.mem_range.mpr hn)
 rw [e]
 refine⟨n,⟨rfl,?_⟩,l1 (Nat.le_trans (ls7_of hc).1 (by decide)),rfl,l1 (Nat.le_trans hj (by decide)),rfl,l1 (Nat.le_trans hj (by decide)),rfl,hd,l1 (Nat.le_trans hj (by decide)),h n hn6 fun m=> ?_⟩
 ·exact Nat.le_trans (Nat.le_of_eq (List.length_map ..)) (l1 (Nat.succ_le_succ hl))
 ·have e1:mgR s vs com n=Rat.divInt (-1) 1:=if_pos (List.elem_iff.mpr m)
  obtain⟨i,hi,hni⟩:∃i:Nat,i<6∧com.elem (i:Int)=false:=by
   have:∀c∈ls7,∃i∈List.range 6,c.elem (i:Int)=false:=by decide
   obtain⟨i,hi,e⟩:=this com hc
   exact⟨i,List.mem_range.mp hi,e⟩
  have h2:=(mxL_ge (qs:=(List.range 6).map (mgR s vs com)) (List.cons_ne_nil _ _)).2 (mgR s vs com i) (List.mem_map.mpr ⟨i,List.mem_range.mpr hi,rfl⟩)
  rw [←hR,e1,show mgR s vs com i=mgQ s vs com i from if_neg (by rw [hni];exact Bool.false_ne_true)]at h2
  exact absurd (Rat.le_trans (mgQ_pos hs hv i) h2) (by decide)
theorem cand_vl{w:World}{l:List Int}(h6:∀x∈l,x∈range6)(hl:xF false l.length 0=true)(h4:l.length≤4)(hi:(yl (l.map fun x=>(false,x))).length=l.length):yL w (.vlist (l.map SV.int))∧yK w (.vlist (l.map SV.int))= .vset (!zy w) (yl (l.map fun x=>(false,x))):=by
 have e:candR (.vlist (l.map SV.int))=yl (l.map fun x=>(false,x)):=by
  show yl ((zJ asN (l.map SV.int)).getD [])=_
  rw [yS];rfl
 refine⟨fun st K k=> ?_,congrArg _ e⟩
 show zg ((zJ asN (l.map SV.int)).bind _) _
 rw [yS]
 show zg (zj (Nat.ble (l.map fun x=>(false,x)).length 4&&xF false (l.map fun x=>(false,x)).length CsK.no.n) _) _
 rw [List.length_map,show xF false l.length CsK.no.n=true from hl,Nat.ble_eq_true_of_le h4]
 refine⟨fun p m=> ?_,hi,?_⟩
 ·obtain⟨x,m',rfl⟩:=List.mem_map.mp m
  exact⟨h6 x m',fun s m e=>CsK.noConfusion e⟩
 ·have:K (.vset (!zy w) (candR (.vlist (l.map SV.int)))) st:=k
  rw [e]at this;exact this
noncomputable def k12:List Int:=[1,2]
noncomputable def sqH(w:World):BT:=fun xs ks st=>some fun K=>∃s vs k,(xs=[.str s,zw (!zy w) vs,.int k]∧ks=[]∧zq vs∧s∈four∧k∈k12)∧∀l∈zo k,∀u,K (.tup [.vlist [.vset (!zy w) l],.top u]) st
theorem sqE_of{w:World}{com:List Int}{K:SV→Prop}(h6:∀x∈com,x∈range6)(hl:xF false com.length 0=true)(h4:com.length≤4)(hi:(yl (com.map fun x=>(false,x))).length=com.length)(h:∀u,K (.tup [.vlist [.vset (!zy w) (yl (com.map fun x=>(false,x)))],.top u])):sqE w com K:=by
 obtain⟨c1,c2⟩:=cand_vl (w:=w) h6 hl h4 hi
 refine⟨by decide,fun u m=>List.mem_singleton.mp m▸c1,fun zs hz u=> ?_⟩
 rw [List.map_cons,List.map_nil,c2]at hz
 exact List.perm_singleton.mp hz▸h u
theorem one_fine:∀n∈range6,(yl [(false,n)]).length=1∧yl [(false,n)]∈zo 1:=by decide+kernel
theorem two_fine:∀n∈range6,∀m∈range6,m∉[n]→(yl [(false,n),(false,m)]).length=2∧yl [(false,n),(false,m)]∈zo 2:=by decide+kernel
theorem sqH_ok(w:World)(d:Nat):BTOk w (d+21) (.ref 491) (sqH w):=fun xs ks t K z vs kvs e k q qk=>by
 cases e
 obtain⟨s,us,n,⟨rfl,rfl,hv,hs,hk⟩,kk⟩:=k
 have one:∀n∈range6,[n]∈ls7:=by decide
 refine W.baseT (inlT_ok (k:=0) (n:=60) (z:=z.to st0) (P23_ok w d) ?_ (q.move rfl) (qk.move rfl))
 rcases List.mem_cons.mp hk with rfl|hk
 ·refine(sq_1 ..).mpr ⟨hs,rfl,sqR_of hs hv (.head _) (by decide) fun n hn _=>sqE_of (List.forall_mem_cons.mpr ⟨hn,fun _ h=>nomatch h⟩) rfl (Nat.le_of_ble_eq_true rfl) (one_fine n hn).1 (kk _ (one_fine n hn).2)⟩
 ·obtain rfl:=List.mem_singleton.mp hk
  refine(sq_2 ..).mpr ⟨hs,rfl,sqR_of hs hv (.head _) (by decide) fun n hn _=>sqR_of hs hv (one n hn) (by decide) fun m hm hne=>sqE_of (List.forall_mem_cons.mpr ⟨hn,List.forall_mem_cons.mpr ⟨hm,fun _ h=>nomatch h⟩⟩) rfl (Nat.le_of_ble_eq_true rfl) (two_fine n hn m hm hne).1 (kk _ (two_fine n hn m hm hne).2)⟩
noncomputable def P24(w:World):Prims:={P14 w with
 call:=zp (onA 491 (sqH w))<|zp (onA 327 (mgH w))<|zp (inlH w (P14 w) 60 [(205,0)])<|zp (onB false "sorted" (b1 sortF))<|zp (onA 37 (b1 (frzP (scH w)))) (P14 w).call
 special:=fun e fr st=>orE (dctS e fr st) ((P14 w).special e fr st)}
theorem P24_ok(w:World)(d:Nat):Sound w (P24 w) (d+21):={yn w (d+2)with
 call:=CallOk.or (BTOk.at (sqH_ok w d))<|CallOk.or (BTOk.at (mgH_ok w (d+1)))<|CallOk.or (yH (yn w (d+1)) _)<|CallOk.or (BTOk.on (ty:=false) sortF_ok)<|CallOk.or (BTOk.at (frzP_ok scH_ok)) (yn w (d+2)).call
 special:=fun e fr t K z env he k ev=>(yi he).elim (fun he=>dctS_ok he k) fun he=>(yn w (d+2)).special e fr t K z env he k ev}
noncomputable abbrev bbB:List Stmt:=(tp 30).2.1
noncomputable def whP(s:Stmt):Expr×List Stmt:=match s with
 | .While t b _ _=>(t,b)
 |_=>(e00,[])
noncomputable abbrev bbW:Expr×List Stmt:=whP (sAt bbB 6)
noncomputable def bbFr:FrS:=⟨4,[],(tp 30).2.2,.ref 456⟩
noncomputable def bbL(i j:Nat)(s:Str)(p:SV)(k:Int)(q:Rat):List (Str×SV):=[("scorefct_id",.str s),("profile",p),("committeesize",.int k),("resolute",.bool false),("max_num_of_committees",.non),("marginal_scorefct",.vinst 252 (mfs s)),("best_committees",.ref i),("best_score",.frac q),("part_coms",.ref j)]
noncomputable def bbK:Kp:=⟨(bbL 0 0 "" .non 0 0).map (·.1),["best_committees","part_coms"],["profile"]⟩
noncomputable def bbS(s:Str)(p:SV)(k:Int)(q:Rat)(L T:List SV):St:=⟨[(4,.ns "part" (bbL 8 9 s p k q)),(8,.list L),(9,.list T)],11⟩
noncomputable abbrev comL(l:List Int):SV:= .vlist (l.map SV.int)
noncomputable def bbLf(w:World)(S:Rat→List SV→List SV→St)(s:Str)(vs:List (List Int×Int))(q:Rat)(L T:List SV)(c:SV)(J:St→Prop):Prop:=T.length≤1000000∧∃vs' l,(zw (!zy w) vs=zw (!zy w) vs'∧zq vs'∧yR w c l∧s∈four)∧True∧
 (decide (thQ 0 s vs' l=q)=true→L.length≤1000000∧(zt (L++[c])=true∧zt T=true∧True)∧((zw (!zy w) vs).pure=true∧True)∧J (S q (L++[c]) T))∧
 (decide (thQ 0 s vs' l=q)=false→((thQ 0 s vs' l).den<2^64∧q.den<2^64)∧(decide (q<thQ 0 s vs' l)=true→(zt [c]=true∧zt T=true∧True)∧((zw (!zy w) vs).pure=true∧True)∧J (S (thQ 0 s vs' l) [c] T))∧
  (decide (q<thQ 0 s vs' l)=false→(zt L=true∧zt T=true∧True)∧((zw (!zy w) vs).pure=true∧True)∧J (S q L T)))
noncomputable def totC:List Rat→Rat→(Rat→Prop)→Prop
 | [],acc,K=>K acc
 |t::r,acc,K=>t.den*acc.den<2^64∧totC r (t+acc) K
noncomputable def pushC:List SV→List SV→(List SV→Prop)→Prop
 | [],T,K=>K T
 |c::r,T,K=>T.length≤1000000∧pushC r (c::T) K
noncomputable def loN(t:List Int):Nat:=match t with
 | []=>0
 |a::_=>a.toNat+1
noncomputable def kidsN(t:List Int)(m:Nat):List (List Int):=((List.range (7-m)).drop (loN t)).map fun c:Nat=>t++[(c:Int)]
noncomputable def bbNd(w:World)(S:Rat→List SV→List SV→St)(s:Str)(vs:List (List Int×Int))(q:Rat)(L T:List SV)(t:List Int)(m:Nat)(J:St→Prop):Prop:=T.length≤1000000∧∃s' vs' l',([.vinst 252 (mfs s),zw (!zy w) vs,comL t]=[.vinst 252 (mfs s'),zw (!zy w) vs',comL l']∧([]:List (Str×SV))=[]∧zq vs'∧s'∈four∧l'∈ls7)∧
 ((six (mgR s' vs' l')).length≤1000000∧zt ((six (mgR s' vs' l')).drop (loN t))=true)∧(∀q∈((List.range 6).drop (loN t)).map (mgR s' vs' l'),q.den<2^64)∧allQ (6-loN t) fun bs=>bs.Perm (((List.range 6).drop (loN t)).map (mgR s' vs' l'))→bs.Pairwise (· ≤·)→((bs.map SV.frac).length≤1000000∧zt ((bs.map SV.frac).drop ((bs.map SV.frac).length-m))=true)∧
 totC (bs.drop (bs.length-m)) ((0:Int):Rat) fun u=>∃vs'' l'',(zw (!zy w) vs=zw (!zy w) vs''∧zq vs''∧yR w (comL t) l''∧s∈four)∧u.den*(thQ 0 s vs'' l'').den<2^64∧((u+thQ 0 s vs'' l'').den<2^64∧q.den<2^64)∧
  (decide (q≤u+thQ 0 s vs'' l'')=true→pushC ((kidsN t m).map comL) T fun T'=>(zt L=true∧zt T'=true∧True)∧((zw (!zy w) vs).pure=true∧True)∧J (S q L T'))∧
  (decide (q≤u+thQ 0 s vs'' l'')=false→(zt L=true∧zt T=true∧True)∧((zw (!zy w) vs).pure=true∧True)∧J (S q L T))
noncomputable def bbNs:List (Int×List Int):=(1,[])::(2,[])::[0,1,2,3,4].map fun a=>(2,[a])
noncomputable abbrev bbV(w:World)(K:KF)(J:St→Prop)(s:Str)(vs:List (List Int×Int))(k:Int)(q:Rat)(L T:List SV):Prop:=vc w (P24 w) 60 (.Ss bbW.2 bbFr (bbS s (zw (!zy w) vs) k q L T) (yZ K (zK 5 8 bbK J)))
theorem bb_l1(w:World)(K:KF)(J:St→Prop)(s:Str)(vs:List (List Int×Int))(q:Rat)(L T:List SV)(a:Int):bbV w K J s vs 1 q L (comL [a]::T)=bbLf w (bbS s (zw (!zy w) vs) 1) s vs q L T (comL [a]) J:=by kernel_rfl
theorem bb_l2(w:World)(K:KF)(J:St→Prop)(s:Str)(vs:List (List Int×Int))(q:Rat)(L T:List SV)(a b:Int):bbV w K J s vs 2 q L (comL [a,b]::T)=bbLf w (bbS s (zw (!zy w) vs) 2) s vs q L T (comL [a,b]) J:=by kernel_rfl
theorem bb_n(w:World)(K:KF)(J:St→Prop)(s:Str)(vs:List (List Int×Int))(q:Rat)(L T:List SV):bbNs.map (fun p=>bbV w K J s vs p.1 q L (comL p.2::T))=bbNs.map fun p=>bbNd w (bbS s (zw (!zy w) vs) p.1) s vs q L T p.2 (p.1.toNat-p.2.length) J:=by kernel_rfl
theorem addV_add(s:Str)(w:Int)(a b:Rat):∀n,xC s w n (a+b)=xC s w n a+b
 |0=>rfl
 |n+1=>by
  show xC s w n (a+b)+_=xC s w n a+_+b
  rw [addV_add s w a b n,Rat.add_assoc,Rat.add_assoc,Rat.add_comm b]
theorem rat_add{a b c d:Rat}(h:a≤b)(k:c≤d):a+c≤b+d:=Rat.le_trans (Rat.add_le_add_right.mpr h) (Rat.add_le_add_left.mpr k)
theorem inter_more:∀l∈ls7,∀c∈range6,c∉l→∀v∈xD,(zP (l++[c]) v).length=(zP v l).length+if v.elem c then 1 else 0:=by decide+kernel
theorem thQ_more{s:Str}{l:List Int}{c:Nat}(hl:l∈ls7)(hc:(c:Int)∈range6)(hn:(c:Int)∉l)(vs:List (List Int×Int)):∀a b:Rat,zq vs→thQ (a+b) s vs (l++[(c:Int)])=thQ a s vs l+vs.foldl (fun q v=>q+mv s l v c) b:=by
 induction vs with
 |nil=>exact fun _ _ _=>rfl
 |cons v vs ih=>
  intro a b hv
  have h:=inter_more l hl c hc hn v.1 (hv v (.head _)).1
  show thQ (xC s v.2 (zP (l++[(c:Int)]) v.1).length (a+b)) s vs (l++[(c:Int)])=thQ (xC s v.2 (zP l v.1).length a) s vs l+vs.foldl (fun q v=>q+mv s l v c) (b+mv s l v c)
  rw [←ih _ _ fun x m=>hv x (.tail _ m)]
  congr 1
  rw [h,addV_add,inter_comm (xs:=l)]
  unfold mv
  by_cases e:v.1.elem (c:Int)=true
  ·rw [if_pos e,if_pos e]
   show xC s v.2 (zP v.1 l).length a+_*_+b=_
   rw [Rat.add_assoc,Rat.add_comm (_*_)]
  ·rw [if_neg e,if_neg e,Rat.add_zero];rfl
theorem thQ_step{s:Str}{l:List Int}{c:Nat}{vs:List (List Int×Int)}(hl:l∈ls7)(hc:(c:Int)∈range6)(hn:(c:Int)∉l)(hv:zq vs):thQ 0 s vs (l++[(c:Int)])=thQ 0 s vs l+mgQ s vs l c:=by
 have:=thQ_more (s:=s) hl hc hn vs 0 0 hv
 rwa [Rat.add_zero]at this
theorem fQ_one0:(sk4.all fun p=>decide (fQ p.1 p.2≤fQ p.1 1))=true:=by decide+kernel
theorem fQ_one{s:Str}{k:Int}(hs:s∈four)(hk:k∈k4):fQ s k≤fQ s 1:=by
 have h:=List.all_eq_true.mp fQ_one0 (s,k) (sk_of hs hk)
 dsimp only at h
 exact of_decide_eq_true h
theorem mgQ_le{s:Str}(hs:s∈four){l:List Int}{vs:List (List Int×Int)}(hv:zq vs)(c:Nat):mgQ s vs l c≤mgQ s vs [] c:=by
 have:∀(vs:List (List Int×Int)) (a b:Rat),zq vs→a≤b→vs.foldl (fun q v=>q+mv s l v c) a≤vs.foldl (fun q v=>q+mv s [] v c) b:=fun vs=>by
  induction vs with
  |nil=>exact fun _ _ _ h=>h
  |cons v vs ih=>
   refine fun a b hv h=>ih _ _ (fun x m=>hv x (.tail _ m)) (rat_add h ?_)
   unfold mv
   by_cases e:v.1.elem (c:Int)=true
   ·rw [if_pos e,if_pos e]
    refine Rat.mul_le_mul_of_nonneg_right ?_ (Rat.intCast_nonneg.mpr (hv v (.head _)).2.2.1)
    have h0:(zP v.1 []).length=0:=by
     have:zP v.1 []=[]:=List.filter_eq_nil_iff.mpr fun a _ h=>Bool.false_ne_true ((zx h).2)
     rw [this];rfl
    rw [h0,show(((0:Nat):Int)+1)=1 from rfl]
    exact fQ_one hs (k4_of (inter_lt hv (.head _)))
   ·rw [if_neg e,if_neg e];exact Rat.le_refl
 exact this vs 0 0 hv Rat.le_refl
theorem mgR_eq{s:Str}{vs:List (List Int×Int)}{l:List Int}{c:Nat}(hn:(c:Int)∉l):mgR s vs l c=mgQ s vs l c:=if_neg fun e=>hn (List.elem_iff.mp e)
theorem last_ge{bs qs:List Rat}(hp:bs.Perm qs)(hs:bs.Pairwise (· ≤·)){q:Rat}(m:q∈qs):∃r,bs.drop (bs.length-1)=[r]∧q≤r∧r∈qs:=by
 have m:=hp.mem_iff.mpr m
 obtain⟨pre,r,e⟩:∃pre r,bs=pre++[r]:=⟨bs.dropLast,_,(List.dropLast_concat_getLast (List.ne_nil_of_mem m)).symm⟩
 subst e
 refine⟨r,by rw [List.length_append];exact List.drop_left' rfl,?_,hp.mem_iff.mp (List.mem_append_right _ (.head _))⟩
 rcases List.mem_append.mp m with m|m
 ·exact(List.pairwise_append.mp hs).2.2 q m r (.head _)
 ·exact List.mem_singleton.mp m▸Rat.le_refl
theorem last_two{bs qs:List Rat}(hp:bs.Perm qs)(hs:bs.Pairwise (· ≤·)){p q:Rat}(m:[p,q].Sublist qs):∃r t,bs.drop (bs.length-2)=[r,t]∧p+q≤r+t∧r∈qs∧t∈qs:=by
 obtain⟨l,hl,hsub⟩:=List.exists_perm_sublist m hp.symm
 have hl2:l.length=2:=hl.length_eq
 have h2:2≤bs.length:=hl2▸hsub.length_le
 obtain⟨pre,r,t,e⟩:∃pre r t,bs=pre++[r,t]:=by
  have hn:bs≠[]:=fun e=>by rw [e]at h2;cases h2
  have e1:=List.dropLast_concat_getLast hn
  have hn2:bs.dropLast≠[]:=fun e=>by
   have:=congrArg List.length e
   rw [List.length_dropLast]at this
   exact absurd (show bs.length-1=0 from this) (Nat.ne_of_gt (Nat.sub_pos_of_lt h2))
  have e2:=List.dropLast_concat_getLast hn2
  exact⟨_,_,_,by rw [←e1,←e2,List.append_assoc];rfl⟩
 subst e
 obtain⟨s1,s2,s3⟩:=List.pairwise_append.mp hs
 have hrt:r≤t:=(List.pairwise_cons.mp s2).1 t (.head _)
 have le:∀x∈pre++[r,t],x≤t:=fun x mx=>(List.mem_append.mp mx).elim (fun mx=>s3 x mx t (.tail _ (.head _))) fun mx=>(List.mem_cons.mp mx).elim (fun e=>e▸hrt) fun mx=>List.mem_singleton.mp mx▸Rat.le_refl
 have key:∀a b,l=[a,b]→a+b≤r+t:=fun a b e=>by
  subst e
  obtain⟨l1,l2,e,h1,h2⟩:=List.sublist_append_iff.mp hsub
  have ha:a≤r:=by
   cases l1 with
   |nil=>
    obtain rfl:[a,b]=l2:=e
    have:=h2.eq_of_length (by rfl)
    injection this with e1 _
    exact e1▸Rat.le_refl
   |cons x l1=>
    injection e with e1 _
    exact e1▸s3 x (h1.subset (.head _)) r (.head _)
  exact rat_add ha (le b (hsub.subset (.tail _ (.head _))))
 refine⟨r,t,by rw [List.length_append];exact List.drop_left' rfl,?_,hp.mem_iff.mp (List.mem_append_right _ (.head _)),hp.mem_iff.mp (List.mem_append_right _ (.tail _ (.head _)))⟩
 match l,hl2,hl with
 | [a,b],_,hl=>
  have:=key a b rfl
  have e:a+b=p+q:=by
   rcases List.mem_cons.mp (hl.mem_iff.mp (.head _):a∈[p,q])with rfl|h
   ·rw [List.singleton_perm_singleton.mp ((List.perm_cons a).mp hl)]
   ·obtain rfl:=List.mem_singleton.mp h
    rw [List.singleton_perm_singleton.mp ((List.perm_cons a).mp (hl.trans (.swap ..))),Rat.add_comm]
  exact e▸this
structure OkL(l:List Int):Prop where
 small:smallL l
 six:∀x∈l,x∈range6
 four:l.length≤4
 ins:yl (l.map fun x=>(false,x))=l
theorem OkL.comm{w:World}{l:List Int}(h:OkL l):yR w (comL l) l:=by
 refine⟨h.small,fun st K k=> ?_,⟨(false,l.length),fun st K k=> ?_⟩,rfl⟩
 ·have:setB w (comL l) st=some fun K=>(∀p∈l.map fun x=>(false,x),p.2∈range6)∧(l.map fun x=>(false,x)).length≤4∧K (.vset (!zy w) (yl (l.map fun x=>(false,x)))) st:=by
   show orE ((zJ asN (l.map SV.int)).bind _) _=_
   rw [yS];rfl
  rw [this]
  refine⟨fun p m=> ?_,(List.length_map (fun x=>(false,x))).symm▸h.four,h.ins.symm▸k⟩
  obtain⟨x,m',rfl⟩:=List.mem_map.mp m
  exact h.six x m'
 ·show zg (orE (zj (Nat.ble (l.map SV.int).length 1000000) _) _) _
  rw [List.length_map,Nat.ble_eq_true_of_le (Nat.le_trans h.four (by decide))]
  exact k
noncomputable def wt(k:Int)(t:List Int):Nat:=match k.toNat-t.length with
 |0=>1
 |1=>8
 |_=>60
noncomputable abbrev mN(p:Int×List Int):Nat:=p.1.toNat-p.2.length
noncomputable def okLB(l:List Int):Bool:=xD.elem l&&(l.all range6.elem&&(Nat.ble l.length 4&&(yl (l.map fun x=>(false,x))==l)))
theorem okLB_of{l:List Int}(h:okLB l=true):OkL l:=by
 obtain⟨a,h⟩:=zx h
 obtain⟨b,h⟩:=zx h
 obtain⟨c,d⟩:=zx h
 exact⟨List.elem_iff.mp a,fun x m=>List.elem_iff.mp (List.all_eq_true.mp b x m),Nat.le_of_ble_eq_true c,eq_of_beq d⟩
theorem tree_n:∀p∈bbNs,(∀x∈zo p.1,(kidsN p.2 (mN p)).countP (fun t=>t.isPrefixOf x)=if p.2.isPrefixOf x then 1 else 0)∧(∀t∈kidsN p.2 (mN p),(p.1,t)∈bbNs∨t∈zo p.1)∧((kidsN p.2 (mN p)).map (wt p.1)).sum+1≤wt p.1 p.2∧okLB p.2=true∧p.2∈ls7:=by decide+kernel
theorem tree_l:∀k∈k12,∀t∈zo k,(∀x∈zo k,t.isPrefixOf x=(t==x))∧wt k t=1∧okLB t=true:=by decide+kernel
theorem tree_1:∀p∈bbNs,mN p=1∨p=(2,[]):=by decide
theorem tree_a:∀p∈bbNs,mN p=1→∀x∈zo p.1,p.2.isPrefixOf x=true→∃c∈(List.range 6).drop (loN p.2),x=p.2++[(c:Int)]∧(c:Int)∉p.2∧(c:Int)∈range6:=by decide+kernel
theorem tree_b:∀x∈zo 2,∃a∈List.range 6,∃b∈List.range 6,a<b∧x=[(a:Int)]++[(b:Int)]∧(b:Int)∉[(a:Int)]∧(a:Int)∈range6∧(b:Int)∈range6∧[(a:Int)]∈ls7:=by decide+kernel
theorem lo_no:∀p∈bbNs,∀c∈(List.range 6).drop (loN p.2),(c:Int)∉p.2:=by decide+kernel
theorem pair_sub:∀a∈List.range 6,∀b∈List.range 6,a<b→[a,b].Sublist (List.range 6):=by decide+kernel
theorem allQ_in{f:List Rat→Prop}:∀{n:Nat},(∀l,l.length=n→f l)→allQ n f:=fun{n}=>by
 induction n generalizing f with
 |zero=>exact fun h=>h [] rfl
 |succ n ih=>exact fun h a=>ih fun l e=>h (a::l) (congrArg (· +1) e)
theorem node_ub{s:Str}(hs:s∈four){vs:List (List Int×Int)}(hv:zq vs){p:Int×List Int}(hp:p∈bbNs){bs:List Rat}(h1:bs.Perm (((List.range 6).drop (loN p.2)).map (mgR s vs p.2)))(h2:bs.Pairwise (· ≤·)){J:Rat→Prop}
  (h:∀u,Dd u→(∀x∈zo p.1,p.2.isPrefixOf x=true→thQ 0 s vs x≤u+thQ 0 s vs p.2)→J u):totC (bs.drop (bs.length-mN p)) ((0:Int):Rat) J:=by
 obtain⟨_,_,_,_,hl7⟩:=tree_n p hp
 have dq:∀q∈((List.range 6).drop (loN p.2)).map (mgR s vs p.2),Dd q:=fun q m=>by
  obtain⟨i,_,rfl⟩:=List.mem_map.mp m
  exact mgR_Dd hs hv i
 have z0:Dd ((0:Int):Rat):=⟨420,by decide⟩
 have e0:∀r:Rat,r+((0:Int):Rat)=r:=fun r=>Rat.add_zero r
 rcases tree_1 p hp with e|rfl
 ·have key:∀x∈zo p.1,p.2.isPrefixOf x=true→∃r,bs.drop (bs.length-1)=[r]∧Dd r∧thQ 0 s vs x≤r+thQ 0 s vs p.2:=fun x m pr=>by
   obtain⟨c,hc,rfl,hn,h6⟩:=tree_a p hp e x m pr
   obtain⟨r,e,hr,mr⟩:=last_ge h1 h2 (List.mem_map.mpr ⟨c,hc,rfl⟩)
   refine⟨r,e,dq r mr,?_⟩
   rw [thQ_step hl7 h6 hn hv,Rat.add_comm]
   exact Rat.add_le_add_right.mpr (mgR_eq (s:=s) (vs:=vs) hn▸hr)
  rw [e]
  have ne:∃q,q∈((List.range 6).drop (loN p.2)).map (mgR s vs p.2):=by
   have:∀p∈bbNs,5∈(List.range 6).drop (loN p.2):=by decide
   exact⟨_,List.mem_map.mpr ⟨5,this p hp,rfl⟩⟩
  obtain⟨q0,hq0⟩:=ne
  obtain⟨r,e1,_,mr⟩:=last_ge h1 h2 hq0
  rw [e1]
  refine⟨lt64 (dq r mr).le z0.le,h _ ((e0 r).symm▸dq r mr) fun x m pr=> ?_⟩
  obtain⟨r',e2,_,hr⟩:=key x m pr
  obtain rfl:r=r':=List.head_eq_of_cons_eq (e1.symm.trans e2)
  rw [e0];exact hr
 ·obtain⟨x0,hx0⟩:∃x,x∈zo 2:=⟨[0,1],by decide+kernel⟩
  have two:∀x∈zo 2,∃r t,bs.drop (bs.length-2)=[r,t]∧Dd r∧Dd t∧thQ 0 s vs x≤t+(r+((0:Int):Rat))+thQ 0 s vs []:=fun x m=>by
   obtain⟨a,ha,b,hb,hab,rfl,hn,a6,b6,al⟩:=tree_b x m
   obtain⟨r,t,e,hrt,mr,mt⟩:=last_two h1 h2 ((pair_sub a ha b hb hab).map (mgR s vs []))
   refine⟨r,t,e,dq r mr,dq t mt,?_⟩
   have n0:∀c:Nat,(c:Int)∉([]:List Int):=fun _ h=>nomatch h
   have st:thQ 0 s vs [(a:Int)]=thQ 0 s vs []+mgQ s vs [] a:=thQ_step (l:=[]) (.head _) a6 (n0 a) hv
   rw [thQ_step al b6 hn hv,st,e0,mgR_eq (s:=s) (vs:=vs) (n0 a),mgR_eq (s:=s) (vs:=vs) (n0 b)]at*
   rw [Rat.add_comm (t+r),Rat.add_assoc]
   exact Rat.add_le_add_left.mpr (Rat.le_trans (rat_add Rat.le_refl (mgQ_le hs hv b)) (Rat.add_comm t r▸hrt))
  obtain⟨r,t,e,hr,ht,_⟩:=two x0 hx0
  show totC (bs.drop (bs.length-2)) _ _
  rw [e]
  refine⟨lt64 hr.le z0.le,lt64 ht.le ((e0 r).symm▸hr).le,h _ (ht.add ((e0 r).symm▸hr)) fun x m _=> ?_⟩
  obtain⟨r',t',e2,_,_,hle⟩:=two x m
  have:=e.symm.trans e2
  injection this with i1 i2
  injection i2 with i2 _
  exact i1▸i2▸hle
structure BBI(f:List Int→Rat)(k:Int)(q:Rat)(L T:List (List Int)):Prop where
 len:L.length+(T.map (wt k)).sum≤60
 nod:∀t∈T,(k,t)∈bbNs∨t∈zo k
 low:∃x∈zo k,q≤f x
 lq:∀x∈L,x∈zo k∧f x=q
 dd:Dd q
 cnt:∀x∈zo k,(∀y∈zo k,f y≤f x)→L.count x+T.countP (fun t=>t.isPrefixOf x)=1
section
variable {f:List Int→Rat}{k:Int}{q:Rat}{L T:List (List Int)}{t:List Int}
theorem wt_pos:1≤wt k t:=by
 unfold wt
 split<;>decide
theorem len_wt(T:List (List Int)):T.length≤(T.map (wt k)).sum:=by
 induction T with
 |nil=>exact Nat.le_refl _
 |cons t T ih=>exact Nat.le_trans (Nat.le_of_eq (Nat.add_comm ..)) (Nat.add_le_add wt_pos ih)
theorem BBI.lens(h:BBI f k q L T):L.length≤60∧T.length≤60:=⟨Nat.le_trans (Nat.le_add_right ..) h.len,Nat.le_trans (Nat.le_trans (len_wt T) (Nat.le_add_left ..)) h.len⟩
theorem BBI.step{q':Rat}{L' T':List (List Int)}(h:BBI f k q L (t::T))(hl:L'.length+(T'.map (wt k)).sum≤L.length+wt k t)(hn:∀t∈T',(k,t)∈bbNs∨t∈zo k)(hq:∃x∈zo k,q'≤f x)(hL:∀x∈L',x∈zo k∧f x=q')(hd:Dd q')
  (hc:∀x∈zo k,(∀y∈zo k,f y≤f x)→L'.count x+T'.countP (fun t=>t.isPrefixOf x)=L.count x+if t.isPrefixOf x then 1 else 0):BBI f k q' L' (T'++T)where
 len:=by
  have:=h.len
  rw [List.map_cons,List.sum_cons,←Nat.add_assoc]at this
  rw [List.map_append,List.sum_append,←Nat.add_assoc]
  exact Nat.le_trans (Nat.add_le_add_right hl _) this
 nod:=fun x m=>(List.mem_append.mp m).elim (hn x) fun m=>h.nod x (.tail _ m)
 low:=hq
 lq:=hL
 dd:=hd
 cnt:=fun x m o=>by
  have:=h.cnt x m o
  rw [List.countP_cons,Nat.add_comm (List.countP _ _),←Nat.add_assoc]at this
  rw [List.countP_append,←Nat.add_assoc,hc x m o];exact this
theorem BBI.leaf(h:BBI f k q L (t::T))(ht:t∈zo k)(hp:∀x∈zo k,t.isPrefixOf x=(t==x))(hw:wt k t=1)(hd:Dd (f t)):
  (f t=q→BBI f k q (L++[t]) T)∧(¬f t=q→(q<f t→BBI f k (f t) [t] T)∧(¬q<f t→BBI f k q L T)):=by
 have ct:∀x,[t].count x=if(t==x)=true then 1 else 0:=fun x=>by rw [List.count_singleton]
 have L0:∀x∈zo k,(∀y∈zo k,f y≤f x)→q<f x→L.count x=0:=fun x _ _ h2=>List.count_eq_zero.mpr fun m=>absurd (h.lq x m).2 fun e=>Rat.lt_irrefl (e▸h2)
 refine⟨fun e=>h.step (T':=[]) ?_ (fun _ h=>nomatch h) h.low (fun x m=>(List.mem_append.mp m).elim (h.lq x) fun m=>List.mem_singleton.mp m▸⟨ht,e⟩) h.dd fun x m o=> ?_,fun ne=>⟨fun lt=>h.step (T':=[]) ?_ (fun _ h=>nomatch h) ⟨t,ht,Rat.le_refl⟩ (fun x m=>by obtain rfl:=List.mem_singleton.mp m;exact⟨ht,rfl⟩) hd fun x m o=> ?_,fun nl=>h.step (T':=[]) (Nat.add_le_add_left (Nat.zero_le _) _) (fun _ h=>nomatch h) h.low h.lq h.dd fun x m o=> ?_⟩⟩
 ·rw [hw,List.length_append];exact Nat.le_refl _
 ·rw [List.count_append,ct,hp x m];rfl
 ·rw [hw];exact Nat.le_add_left ..
 ·rw [ct,hp x m,L0 x m o (Rat.not_le.mp fun c=>Rat.not_le.mpr lt (Rat.le_trans (o t ht) c)),Nat.zero_add];rfl
 ·obtain⟨y,my,ly⟩:=h.low
  rw [hp x m,if_neg (fun e=> ?_)];rfl
  obtain rfl:=eq_of_beq e
  exact ne (Rat.le_antisymm (Rat.not_lt.mp nl) (Rat.le_trans ly (o y my)))
theorem BBI.node(h:BBI f k q L (t::T))(ht:(k,t)∈bbNs){u:Rat}(hu:∀x∈zo k,t.isPrefixOf x=true→f x≤u):
  (q≤u→BBI f k q L ((kidsN t (k.toNat-t.length)).reverse++T))∧(¬q≤u→BBI f k q L T):=by
 obtain⟨n1,n2,n3,_⟩:=tree_n _ ht
 refine⟨fun _=>h.step ?_ (fun x m=>n2 x (List.mem_reverse.mp m)) h.low h.lq h.dd fun x m _=> ?_,fun nl=>h.step (T':=[]) (Nat.add_le_add_left (Nat.zero_le _) _) (fun _ h=>nomatch h) h.low h.lq h.dd fun x m o=> ?_⟩
 ·rw [List.map_reverse,List.sum_reverse]
  exact Nat.add_le_add_left (Nat.le_trans (Nat.le_succ _) n3) _
 ·rw [List.countP_reverse,n1 x m]
 ·obtain⟨y,my,ly⟩:=h.low
  rw [if_neg (fun e=>nl (Rat.le_trans ly (Rat.le_trans (o y my) (hu x m e))))];rfl
theorem BBI.fin(h:BBI f k q L [])(hn:(zo k).Nodup):L.Perm (y8 f (zo k)):=by
 obtain⟨y,my,ly⟩:=h.low
 have one:∀x∈zo k,(∀y∈zo k,f y≤f x)→L.count x=1:=fun x m o=>h.cnt x m o
 have opt:∀x∈L,∀y∈zo k,f y≤f x:=fun x m y my=>by
  obtain⟨z,mz,oz⟩:∃z∈zo k,∀y∈zo k,f y≤f z:=by
   obtain⟨z,mz⟩:=List.exists_mem_of_ne_nil _ (bestL_ne (f:=f) (List.ne_nil_of_mem my))
   exact⟨z,(List.mem_filter.mp mz).1,of_decide_eq_true (List.mem_filter.mp mz).2⟩
  have hz:=List.one_le_count_iff.mp (Nat.le_of_eq (one z mz oz).symm)
  rw [(h.lq x m).2,←(h.lq z hz).2];exact oz y my
 refine(List.perm_ext_iff_of_nodup (List.nodup_iff_count.mpr fun x=> ?_) (hn.filter _)).mpr fun x=>⟨fun m=>List.mem_filter.mpr ⟨(h.lq x m).1,decide_eq_true (opt x m)⟩,fun m=> ?_⟩
 ·by_cases m:x∈L
  ·exact Nat.le_of_eq (one x (h.lq x m).1 (opt x m))
  ·rw [List.count_eq_zero.mpr m];exact Nat.zero_le _
 ·obtain⟨m1,m2⟩:=List.mem_filter.mp m
  exact List.one_le_count_iff.mp (Nat.le_of_eq (one x m1 (of_decide_eq_true m2)).symm)
end
section
variable {w:World}{k:Int}{q:Rat}{L T:List (List Int)}{t:List Int}{s:Str}{vs:List (List Int×Int)}{S:Rat→List SV→List SV→St}{J:St→Prop}
theorem zC{L:List (List Int)}:zt (L.map comL)=true:=ze (fun _=>rfl) L
theorem mil{n:Nat}(h:n≤60):n≤1000000:=Nat.le_trans h (by decide)
theorem z0:Dd ((0:Int):Rat):=⟨420,by decide⟩
noncomputable abbrev BBJ(s:Str)(vs:List (List Int×Int))(k:Int)(S:Rat→List SV→List SV→St)(J:St→Prop)(n:Nat):Prop:=∀q L T,BBI (thQ 0 s vs) k q L T→(T.map (wt k)).sum<n→J (S q (L.map comL) (T.map comL))
theorem sum_lt:(T.map (wt k)).sum<((t::T).map (wt k)).sum:=Nat.lt_of_lt_of_le (Nat.lt_succ_self _) (Nat.le_trans (Nat.le_of_eq (Nat.add_comm _ 1)) (Nat.add_le_add_right wt_pos _))
theorem bbLf_of(hs:s∈four)(hv:zq vs)(hk:k∈k12)(ht:t∈zo k)(h:BBI (thQ 0 s vs) k q L (t::T))(hJ:BBJ s vs k S J ((t::T).map (wt k)).sum):bbLf w S s vs q (L.map comL) (T.map comL) (comL t) J:=by
 obtain⟨n1,n2,n3⟩:=tree_l k hk t ht
 have o:=okLB_of n3
 have hd:Dd (thQ 0 s vs t):=thQ_Dd hs o.small z0
 obtain⟨l1,l2⟩:=h.leaf ht n1 n2 hd
 have lT:(T.map comL).length≤1000000:=by rw [List.length_map];exact mil (Nat.le_trans (Nat.le_succ _) h.lens.2)
 have p:(zw (!zy w) vs).pure=true∧True:=⟨rfl,trivial⟩
 have d64:∀{q:Rat},Dd q→q.den<2^64:=fun h=>Nat.lt_of_le_of_lt h.le (by decide)
 refine⟨lT,vs,t,⟨rfl,hv,o.comm,hs⟩,trivial,fun e=>⟨by rw [List.length_map];exact mil h.lens.1,?_⟩,fun e=>⟨⟨d64 hd,d64 h.dd⟩,fun e2=>⟨⟨rfl,zC,trivial⟩,p,hJ _ [t] T ((l2 (of_decide_eq_false e)).1 (of_decide_eq_true e2)) sum_lt⟩,fun e2=>⟨⟨zC,zC,trivial⟩,p,hJ _ L T ((l2 (of_decide_eq_false e)).2 (of_decide_eq_false e2)) sum_lt⟩⟩⟩
 rw [show L.map comL++[comL t]=(L++[t]).map comL from(List.map_append (l₁:=L) (l₂:=[t])).symm]
 exact⟨⟨zC,zC,trivial⟩,p,hJ _ _ T (l1 (of_decide_eq_true e)) sum_lt⟩
theorem pushC_of{K:List SV→Prop}(cs:List SV):∀{T:List SV},cs.length+T.length≤1000000→K (cs.reverse++T)→pushC cs T K:=by
 induction cs with
 |nil=>exact fun _ h=>h
 |cons c r ih=>
  intro T hl h
  rw [List.length_cons,Nat.add_right_comm]at hl
  refine⟨Nat.le_trans (Nat.le_add_left ..) (Nat.le_trans (Nat.le_succ _) hl),ih hl ?_⟩
  rw [List.reverse_cons,List.append_assoc]at h
  exact h
theorem bbNd_of(hs:s∈four)(hv:zq vs)(ht:(k,t)∈bbNs)(h:BBI (thQ 0 s vs) k q L (t::T))(hJ:BBJ s vs k S J ((t::T).map (wt k)).sum):bbNd w S s vs q (L.map comL) (T.map comL) t (k.toNat-t.length) J:=by
 obtain⟨n1,n2,n3,n4,n5⟩:=tree_n _ ht
 have o:=okLB_of n4
 have hd:Dd (thQ 0 s vs t):=thQ_Dd hs o.small z0
 have l0:T.length≤60:=Nat.le_trans (Nat.le_succ _) h.lens.2
 have lT:(T.map comL).length≤1000000:=by rw [List.length_map];exact mil l0
 have p:(zw (!zy w) vs).pure=true∧True:=⟨rfl,trivial⟩
 have d64:∀{q:Rat},Dd q→q.den<2^64:=fun h=>Nat.lt_of_le_of_lt h.le (by decide)
 have dr:∀(qs:List Rat) n,zt ((qs.map SV.frac).drop n)=true:=fun qs n=>by rw [←List.map_drop];exact ze (fun _=>rfl) _
 refine⟨lT,s,vs,t,⟨rfl,rfl,hv,hs,n5⟩,⟨Nat.le_of_ble_eq_true rfl,by rw [show six (mgR s vs t)=((List.range 6).map (mgR s vs t)).map SV.frac from rfl];exact dr ..⟩,fun q m=> ?_,allQ_in fun bs e h1 h2=>⟨⟨?_,dr ..⟩,node_ub hs hv ht h1 h2 fun u du hu=>⟨vs,t,⟨rfl,hv,o.comm,hs⟩,lt64 du.le hd.le,⟨d64 (du.add hd),d64 h.dd⟩,fun e=>pushC_of _ ?_ ?_,fun e=>⟨⟨zC,zC,trivial⟩,p,hJ _ L T ((h.node ht hu).2 (of_decide_eq_false e)) sum_lt⟩⟩⟩⟩
 ·obtain⟨i,_,rfl⟩:=List.mem_map.mp m
  exact d64 (mgR_Dd hs hv i)
 ·rw [List.length_map,e];exact Nat.le_trans (Nat.sub_le ..) (by decide)
 ·have:=Nat.le_trans (Nat.le_trans (len_wt (k:=k) _) (Nat.le_succ _)) n3
  have w60:wt k t≤60:=Nat.le_trans (Nat.le_trans (Nat.le_add_right ..) (Nat.le_add_left ..)) h.len
  rw [List.length_map,List.length_map]
  exact Nat.le_trans (Nat.add_le_add (Nat.le_trans this w60) l0) (by decide)
 ·rw [←List.map_reverse,←List.map_append]
  refine⟨⟨zC,zC,trivial⟩,p,hJ _ L _ ((h.node ht hu).1 (of_decide_eq_true e)) ?_⟩
  rw [List.map_append,List.sum_append,List.map_reverse,List.sum_reverse]
  exact Nat.add_lt_add_right n3 _
end
noncomputable def bbS0(s:Str)(p:SV)(k:Int)(q:Rat)(l:SV)(u:Value):St:=⟨[(7,.list [.ref 6]),(6,.list []),(5,.list []),(4,.ns "frame" [("scorefct_id",.str s),("profile",p),("committeesize",.int k),("resolute",.bool false),("max_num_of_committees",.non),("marginal_scorefct",.vinst 252 (mfs s)),("best_committees",.ref 5),("init_com",l),("_",.top u),("best_score",.frac q),("part_coms",.ref 7)])],8⟩
theorem bb_fz(s:Str)(p:SV)(k:Int)(q:Rat)(l:SV)(u:Value):y5 6 (bbS0 s p k q l u) (.ref 6)=some (.vlist [],(bbS0 s p k q l u).drop 6):=by kernel_rfl
theorem bb_an(J:St→Prop)(s:Str)(led:Bool)(vs:List (List Int×Int))(k:Int)(q:Rat)(l:SV)(u:Value):zK 5 8 bbK J (((bbS0 s (zw led vs) k q l u).drop 6).put 7 (.list [.vlist []]))=((zt []=true∧zt [comL []]=true∧True)∧((zw led vs).pure=true∧True)∧J (bbS s (zw led vs) k q [] [comL []])):=by kernel_rfl
theorem bb_t(w:World)(K:Bool→Bool→St→Prop)(s:Str)(p:SV)(k:Int)(q:Rat)(L T:List SV):vc w (P24 w) 60 (.T bbW.1 bbFr (bbS s p k q L T) K)=truK (.ref 9) (bbS s p k q L T) K:=by kernel_rfl
theorem tru_on{i:Nat}{st:St}{xs:List SV}{K:KT}(e:zZ st (.ref i)=some xs)(h:xs.length≤1000000)(k:K false (!xs.isEmpty) st):truK (.ref i) st K:=by
 show zg (truL (zZ st (.ref i))) _
 rw [e]
 show zg (zj (Nat.ble xs.length 1000000) _) _
 rw [Nat.ble_eq_true_of_le h];exact k
theorem way_t{A B:Prop}(h:A):way false true A B:=h
theorem way_f{A B:Prop}(h:B):way false false A B:=h
noncomputable def bbT(w:World):WhT:=fun t b fr st K=>((t,b)=bbW∧fr=bbFr)∧∃s vs k q l u,(st=bbS0 s (zw (!zy w) vs) k q l u∧s∈four∧zq vs∧k∈k12∧Dd q∧∃x∈zo k,q≤thQ 0 s vs x)∧∀q' (L:List (List Int)),L.Perm (y8 (thQ 0 s vs) (zo k))→K .next (bbS s (zw (!zy w) vs) k q' (L.map comL) [])
theorem coms_nd:∀k∈k12,(zo k).Nodup∧[]∉zo k∧(k,[])∈bbNs∧wt k []≤60:=by decide+kernel
theorem bb_sh:(∀t∈zo 1,t=[t.headD 0])∧∀t∈zo 2,t=[t.headD 0,(t.drop 1).headD 0]:=by decide+kernel
noncomputable abbrev bbI(w:World)(s:Str)(vs:List (List Int×Int))(k:Int)(m:Nat)(st:St):Prop:=∃q L T,st=bbS s (zw (!zy w) vs) k q (L.map comL) (T.map comL)∧BBI (thQ 0 s vs) k q L T∧m=(T.map (wt k)).sum
theorem bb_wh{w:World}{s:Str}{vs:List (List Int×Int)}{k:Int}{K:KF}(hs:s∈four)(hv:zq vs)(hk:k∈k12)(kk:∀q' (L:List (List Int)),L.Perm (y8 (thQ 0 s vs) (zo k))→K .next (bbS s (zw (!zy w) vs) k q' (L.map comL) [])):WhP w (P24 w) 60 bbW.1 bbW.2 bbFr 5 8 bbK K (bbI w s vs k):=fun m st h=>by
 obtain⟨q,L,T,rfl,hI,rfl⟩:=h
 refine(bb_t ..).mpr ?_
 refine tru_on (xs:=T.map comL) rfl (by rw [List.length_map];exact mil hI.lens.2) ?_
 cases T with
 |nil=>exact way_f (kk q L (hI.fin (coms_nd k hk).1))
 |cons t T=>
  have hJ:BBJ s vs k (bbS s (zw (!zy w) vs) k) (fun st3=>∃m',m'<((t::T).map (wt k)).sum∧bbI w s vs k m' st3) ((t::T).map (wt k)).sum:=fun q L T h l=>⟨_,l,q,L,T,rfl,h,rfl⟩
  refine way_t ?_
  rcases hI.nod t (.head _)with m|m
  ·exact(zl (bb_n w K _ s vs q (L.map comL) (T.map comL)) m).mpr (bbNd_of hs hv m hI hJ)
  ·have lf:=bbLf_of (w:=w) hs hv hk m hI hJ
   rcases List.mem_cons.mp hk with rfl|hk
   ·rw [bb_sh.1 t m]at lf⊢;exact(bb_l1 ..).mpr lf
   ·obtain rfl:=List.mem_singleton.mp hk
    rw [bb_sh.2 t m]at lf⊢;exact(bb_l2 ..).mpr lf
theorem bbT_ok(w:World)(d:Nat):WhOk w (d+21) (bbT w):=fun t b fr K z env A E h ev ha ok=>by
 obtain⟨⟨e,rfl⟩,s,vs,k,q,l,u,⟨hst,hs,hv,hk,hd,hx⟩,kk⟩:=h
 obtain rfl:t=bbW.1:=congrArg Prod.fst e
 obtain rfl:b=bbW.2:=congrArg Prod.snd e
 obtain⟨G0,ρ,st,s0⟩:=z
 obtain rfl:st=_:=hst
 obtain⟨o,ow⟩:=ok.rep.own 7 (.list [.ref 6]) rfl
 obtain⟨os,c,e1,hv1⟩:=ow.rel
 obtain⟨v,e2,hv1⟩:=hv1.one
 rcases yg 6 (bb_fz s (zw (!zy w) vs) k q l u) ok.rep hv1 with @⟨G,S1,v3,p3⟩
 have S2:=S1.rep.turn (i:=7) (so':= .list [.vlist []]) (s:=s0) rfl (fun _ _=>rfl) ow.hp (e1▸ .list (e2▸ .cons v3 .nil)) (.refl _)
 have S:=S1.trans S2
 obtain⟨n1,n2,n3,n4⟩:=coms_nd k hk
 have an:zK 5 8 bbK (bbI w s vs k ([[]].map (wt k)).sum) (((bbS0 s (zw (!zy w) vs) k q l u).drop 6).put 7 (.list [.vlist []])):=(bb_an ..).mpr ⟨⟨rfl,rfl,trivial⟩,⟨rfl,trivial⟩,q,[],[[]],rfl,⟨Nat.le_trans (Nat.le_of_eq (Nat.zero_add _)) n4,fun t m=>List.mem_singleton.mp m▸ .inl n3,hx,(fun _ h=>nomatch h),hd,fun _ _ _=>rfl⟩,rfl⟩
 have wl:=wh_loop (z:=⟨G,ρ,((bbS0 s (zw (!zy w) vs) k q l u).drop 6).put 7 (.list [.vlist []]),s0⟩) (E:=E) (K:=K) (P24_ok w d) (bb_wh hs hv hk kk) an (S.env ev) ha (S.ok ok)
 refine codeAny_mono wl fun r s h=> ?_
 cases r with
 |ok f=>exact .from S h
 |error e=>exact h
theorem bb_fn(w:World)(K:SV→Prop)(s:Str)(vs:List (List Int×Int))(k:Int):yh w ((P24 w).wh 504 (bbT w)) 60 457 0 [] (bfN s (zw (!zy w) vs) k) st0 (yb K)=(s∈four∧∃s' vs' k',([.str s,zw (!zy w) vs,.int k]=[.str s',zw (!zy w) vs',.int k']∧([]:List (Str×SV))=[]∧zq vs'∧s'∈four∧k'∈k12)∧∀l∈zo k',∀u,∃vs' l',(zw (!zy w) vs=zw (!zy w) vs'∧zq vs'∧yR w (.vset (!zy w) l) l'∧s∈four)∧
 bbT w bbW.1 bbW.2 bbFr (bbS0 s (zw (!zy w) vs) k (thQ 0 s vs' l') (.vset (!zy w) l) u) fun _ st=>zg (zA st 8) fun L=>zt L=true∧L.length<64∧(∀u∈L,yL w u)∧∀zs,zs.Perm (L.map (yK w))→∀v,K (.tup [.vlist zs,.top v])):=by kernel_rfl
noncomputable def bbH(w:World):BT:=fun xs ks st=>some fun K=>∃s vs k,(xs=[]∧ks=bfN s (zw (!zy w) vs) k∧zq vs∧s∈four∧k∈k12)∧∀zs v,zs.Perm ((y8 (thQ 0 s vs) (zo k)).map (.vset (!zy w)))→K (.tup [.vlist zs,.top v]) st
theorem coms_cs:∀k∈k12,zo k≠[]∧(zo k).length≤60∧∀l∈zo k,okLB l=true∧xF false l.length 0=true:=by decide+kernel
theorem bbH_ok(w:World)(d:Nat):BTOk w (d+22) (.ref 457) (bbH w):=fun xs ks t K z vs kvs e k q qk=>by
 cases e
 obtain⟨s,us,n,⟨rfl,rfl,hv,hs,hk⟩,kk⟩:=k
 obtain⟨_,c2,c3⟩:=coms_cs n hk
 refine zM (k:=0) (n:=60) ((P24_ok w d).wh (bbT_ok w d)) rfl rfl ((bb_fn ..).mpr ⟨hs,s,us,n,⟨rfl,rfl,hv,hs,hk⟩,fun l hl u=> ?_⟩) q qk
 have o:=okLB_of (c3 l hl).1
 refine⟨us,l,⟨rfl,hv,⟨o.small,fun _ _ k=>⟨rfl,k⟩,⟨(true,l.length),fun _ _ k=>k⟩,rfl⟩,hs⟩,⟨rfl,rfl⟩,s,us,n,_,_,_,⟨rfl,hs,hv,hk,thQ_Dd hs o.small z0,l,hl,Rat.le_refl⟩,fun q' L hp=> ?_⟩
 have hL:∀l∈L,l∈zo n:=fun l m=>y2.1 l (hp.mem_iff.mp m)
 have cv:∀l∈L,yL w (comL l)∧yK w (comL l)= .vset (!zy w) l:=fun l m=>by
  obtain⟨o,t⟩:=c3 l (hL l m)
  have o:=okLB_of o
  have:=cand_vl (w:=w) o.six t o.four (by rw [o.ins])
  rwa [o.ins]at this
 refine⟨zC,?_,fun u m=> ?_,fun zs hz v=>kk zs v (hz.trans ?_)⟩
 ·rw [List.length_map,hp.length_eq]
  exact Nat.lt_of_le_of_lt (Nat.le_trans y2.2 c2) (by decide)
 ·obtain⟨l,m',rfl⟩:=List.mem_map.mp m
  exact(cv l m').1
 ·rw [List.map_map]
  have:L.map (yK w∘comL)=L.map (.vset (!zy w)):=List.map_congr_left fun l m=>(cv l m).2
  rw [this];exact hp.map _
noncomputable def P26(w:World):Prims:={P16 w with call:=zp (onA 478 (adH w))<|zp (onA 457 (bbH w)) (P16 w).call}
theorem P26_ok(w:World)(d:Nat):Sound w (P26 w) (d+22):={P16_ok w (d+2)with call:=CallOk.or (BTOk.at (adH_ok w (d+1)))<|CallOk.or (BTOk.at (bbH_ok w d)) (P16_ok w (d+2)).call}
noncomputable def P27(w:World):Prims:=(P26 w).calls (inlH w (P26 w) 60 [(362,2),(351,0),(359,0)])
theorem P27_ok(w:World)(d:Nat):Sound w (P27 w) (d+23):=(P26_ok w (d+1)).calls (yH (P26_ok w d) _)
noncomputable def P28(w:World):Prims:=(P27 w).calls (inlH w (P27 w) 60 [(441,0)])
theorem P28_ok(w:World)(d:Nat):Sound w (P28 w) (d+24):=(P27_ok w (d+1)).calls (yH (P27_ok w d) _)
noncomputable def cpR(a:Nat)(s:Str):List (Nat×Str×Str×List Int×Int):=[(a,s,"brute-force",k3,1),(a,s,"brute-force",k3,2),(a,s,"brute-force",k3,3),(a,s,"branch-and-bound",k12,1),(a,s,"branch-and-bound",k12,2)]
noncomputable def cpL:List (Nat×Str×Str×List Int×Int):=cpR 465 "pav"++cpR 473 "slav"
noncomputable def noV(n:Nat)(R:Prop):Prop:=(((true,(n:Int)).fst||(false,(0:Int)).fst,(true,(n:Int)).snd==(false,(0:Int)).snd).snd=true→False)∧(((true,(n:Int)).fst||(false,(0:Int)).fst,(true,(n:Int)).snd==(false,(0:Int)).snd).snd=false→R)
theorem cp_f(w:World)(K:SV→Prop)(vs:List (List Int×Int)):cpL.map (fun p=>yh w (P28 w) 100 p.1 0 [zw (!zy w) vs,.int p.2.2.2.2] [("algorithm",.str p.2.2.1)] st0 (yb K))=cpL.map fun p=>0≤1000000∧1≤1000000∧∃vs',(zw (!zy w) vs=zw (!zy w) vs'∧vs'.length≤4)∧noV vs'.length (∃s vs' k,(([]:List SV)=[]∧bfN p.2.1 (zw (!zy w) vs) p.2.2.2.2=bfN s (zw (!zy w) vs') k∧zq vs'∧s∈four∧k∈p.2.2.2.1)∧∀zs (v:Value),zs.Perm ((y8 (thQ 0 s vs') (zo k)).map (.vset (!zy w)))→K (.vlist zs)):=by kernel_rfl
noncomputable def caL:List (Nat×Int):=[(486,2),(486,3),(486,4)]
theorem ca_f(w:World)(K:SV→Prop)(vs:List (List Int×Int)):caL.map (fun p=>yh w (P27 w) 100 p.1 0 [zw (!zy w) vs,.int p.2] [] st0 (yb K))=caL.map fun p=>0≤1000000∧∃vs',(zw (!zy w) vs=zw (!zy w) vs'∧vs'.length≤4)∧noV vs'.length (∃vs' k',([zw (!zy w) vs,.int p.2,.bool false,.non]=[zw (!zy w) vs',.int k',.bool false,.non]∧([]:List (Str×SV))=[]∧zq vs'∧k'∈k24)∧((zF vs' (zo k')).map (SV.vset (!zy w))).length<64∧(∀u∈(zF vs' (zo k')).map (SV.vset (!zy w)),yL w u)∧∀zs,zs.Perm (((zF vs' (zo k')).map (SV.vset (!zy w))).map (yK w))→K (.vlist zs)):=by kernel_rfl
theorem noV_of{n:Nat}{R:Prop}(h:n≠0)(r:R):noV n R:=⟨fun e=>h (Int.ofNat.inj (eq_of_beq e)),fun _=>r⟩
noncomputable def proOk(vs:List (List Int×Int)):Prop:=zq vs∧vs.length≤4∧vs.length≠0
noncomputable def cpH(w:World)(a:Nat):BT:=fun xs ks st=>some fun K=>∃p vs,(p∈cpL∧p.1=a∧xs=[zw (!zy w) vs,.int p.2.2.2.2]∧ks=([("algorithm",.str p.2.2.1)]:List (Str×SV))∧proOk vs)∧∀zs,zs.Perm ((y8 (thQ 0 p.2.1 vs) (zo p.2.2.2.2)).map (.vset (!zy w)))→K (.vlist zs) st
theorem cpL_ok:∀p∈cpL,p.2.1∈four∧p.2.2.2.2∈p.2.2.2.1:=by decide+kernel
theorem cpH_ok(w:World)(d a:Nat):BTOk w (d+25) (.ref a) (cpH w a):=fun xs ks t K z vs kvs e k q qk=>by
 cases e
 obtain⟨p,us,⟨hp,rfl,rfl,rfl,hv,h4,h0⟩,kk⟩:=k
 obtain⟨p1,p2⟩:=cpL_ok p hp
 exact zM (k:=0) (n:=100) (P28_ok w d) rfl rfl ((zl (cp_f w _ us) hp).mpr ⟨by decide,by decide,us,⟨rfl,h4⟩,noV_of h0 ⟨_,us,_,⟨rfl,rfl,hv,p1,p2⟩,fun zs _ h=>kk zs h⟩⟩) q qk
noncomputable def caH(w:World)(a:Nat):BT:=fun xs ks st=>some fun K=>∃p vs,(p∈caL∧p.1=a∧xs=[zw (!zy w) vs,.int p.2]∧ks=[]∧proOk vs)∧∀zs,zs.Perm ((zF vs (zo p.2)).map (.vset (!zy w)))→K (.vlist zs) st
theorem caL_ok:∀p∈caL,p.2∈k24∧(zo p.2).length<64:=by decide+kernel
theorem caH_ok(w:World)(d a:Nat):BTOk w (d+24) (.ref a) (caH w a):=fun xs ks t K z vs kvs e k q qk=>by
 cases e
 obtain⟨p,us,⟨hp,rfl,rfl,rfl,hv,h4,h0⟩,kk⟩:=k
 obtain⟨p1,p2⟩:=caL_ok p hp
 refine zM (k:=0) (n:=100) (P27_ok w d) rfl rfl ((zl (ca_f w _ us) hp).mpr ⟨by decide,us,⟨rfl,h4⟩,noV_of h0 ⟨us,_,⟨rfl,rfl,hv,p1⟩,?_,fun u m=> ?_,fun zs h=>kk zs ?_⟩⟩) q qk
 ·rw [List.length_map]
  exact Nat.lt_of_le_of_lt (Nat.le_trans y2.2 y2.2) p2
 ·obtain⟨l,_,rfl⟩:=List.mem_map.mp m
  exact fun st K k=>⟨rfl,fun _ _ e=>CsK.noConfusion e,k⟩
 ·rw [List.map_map,show(zF us (zo p.2)).map (yK w∘SV.vset (!zy w))=(zF us (zo p.2)).map (.vset (!zy w))from List.map_congr_left fun l _=>congrArg (SV.vset (!zy w)) (show candR (.vset (!zy w) l)=l from rfl)]at h
  exact h
noncomputable def listR(x:SV)(st:St):Tr:=match x with
 | .rng a b=>zj (a==0&&b==6) (some fun K=>K xy st)
 |_=>none
section
variable {w:World}{d:Nat}
theorem listR_ok:BTOk w d (.type "list") (b1 listR):=yx fun x t K z v e k q A E ha ok=>by
 induction x using SV.casesOn with
 |rng a b=>
  obtain⟨h,e⟩:=zv e
  cases e
  obtain⟨h1,h2⟩:=zx h
  obtain rfl:=eq_of_beq h1
  obtain rfl:=eq_of_beq h2
  rcases q.inv with⟨g⟩
  refine call_list_range (n:=6) ha.1 (ok.rep.sub _ _ g) (by decide) (by decide) (by decide) fun h' tk acc c hk ho hi=> ?_
  have S:=(ok.rep.grow (s:={z.s with heap:=h',toks:=tk}) hk (.same rfl rfl)).addG (a:=z.new) ⟨zh _,ok.rep.free.gn,ok.rep.free.out⟩ ho
  refine .mk S (.vlist rfl (vs:=acc) (k:=c) (if_pos rfl) (.of ?_ fun i x e=> ?_)) k
  ·exact hi.1.symm
  ·obtain⟨m,hm,rfl⟩:=map_get? (l:=List.range 6) (f:=fun i:Nat=>SV.int i) e
   obtain⟨h6,e1⟩:=List.getElem?_eq_some_iff.mp hm
   obtain rfl:i=m:=(List.getElem_range h6).symm.trans e1
   have ha:i<acc.size:=hi.1.symm▸(List.length_range (n:=6)▸h6)
   have e2:acc[i]? =some acc[i]:=Array.getElem?_eq_getElem ha
   obtain⟨t,e3⟩:=hi.2 i _ e2
   rw [List.getD_eq_getElem?_getD,Array.getElem?_toList,e2,e3]
   exact(Int.zero_add _).symm▸(Int.mul_one _).symm▸ .num
 |_=>exact(zu rfl e).elim
end
noncomputable def P29(w:World):Prims:={P28 w with call:=zp (onB true "list" (b1 listR)) (P28 w).call}
theorem P29_ok(w:World)(d:Nat):Sound w (P29 w) (d+24):={P28_ok w d with call:=CallOk.or (BTOk.on (ty:=true) listR_ok) (P28_ok w d).call}
noncomputable def P30(w:World):Prims:=(P29 w).calls (inlH w (P29 w) 60 [(703,1)])
theorem P30_ok(w:World)(d:Nat):Sound w (P30 w) (d+25):=(P29_ok w (d+1)).calls (yH (P29_ok w d) _)
noncomputable def P31(w:World):Prims:=(P30 w).calls (inlH w (P30 w) 60 [(586,0)])
theorem P31_ok(w:World)(d:Nat):Sound w (P31 w) (d+26):=(P30_ok w (d+1)).calls (yH (P30_ok w d) _)
noncomputable def frz2(T:BT):BT:=fun xs ks st=>match xs with
 | [x,y]=>(y5 6 st x).bind fun p=>T [p.1,y] ks p.2
 |_=>none
theorem BTOk.frz2{w:World}{d:Nat}{f:Value}{T:BT}(h:BTOk w d f T):BTOk w d f (frz2 T):=fun xs ks t K z vs kvs e k q qk=>by
 rcases xs with _|⟨x,_|⟨y,_|⟨_,_⟩⟩⟩<;>first|exact(zu rfl e).elim|skip
 obtain⟨p,e1,e⟩:=zz e
 obtain⟨v,u,rfl,q1,q2⟩:=q.two
 intro A E ha ok
 rcases yg 6 e1 ok.rep q1 with @⟨G,S,v1,p1⟩
 exact wm (h [p.1,y] ks t K ⟨G,z.ρ,p.2,z.s⟩ [v,u] kvs e k (.cons v1 (.cons (S.val q2) .nil)) (S.fvals qk) A E ha (S.ok ok)) fun _ _ q=>.from S q
noncomputable def P32(w:World):Prims:={(P31 w).calls (inlH w (P31 w) 60 [(666,2),(593,0)])with
 call:=zp (onA 465 (frz2 (cpH w 465)))<|zp (onA 473 (frz2 (cpH w 473)))<|zp (onA 486 (frz2 (caH w 486))) ((P31 w).calls (inlH w (P31 w) 60 [(666,2),(593,0)])).call}
theorem P32_ok(w:World)(d:Nat):Sound w (P32 w) (d+27):=
 have S:=(P31_ok w (d+1)).calls (yH (P31_ok w d) [(666,2),(593,0)])
 {S with call:=CallOk.or (BTOk.at (cpH_ok w (d+2) 465).frz2)<|CallOk.or (BTOk.at (cpH_ok w (d+2) 473).frz2)<|CallOk.or (BTOk.at (caH_ok w (d+3) 486).frz2) S.call}
theorem len2{α:Type}{l:List α}(h:l.length=2):∃a b,l=[a,b]:=match l,h with
 | [a,b],_=>⟨a,b,rfl⟩
theorem len3{α:Type}{l:List α}(h:l.length=3):∃a b c,l=[a,b,c]:=match l,h with
 | [a,b,c],_=>⟨a,b,c,rfl⟩
noncomputable def mulOk(a b:Int):Prop:=(decide (Builtin.Int.intBits a>shortFactorBits) &&decide (Builtin.Int.intBits b>shortFactorBits) &&Builtin.Int.intTooBig (↑(Builtin.Int.intBits a)+ ↑(Builtin.Int.intBits b)))=true→False
noncomputable def xY:List (List Int):=[[12,6,4,3],[105,35,21,15],[0,6,3,2]]
noncomputable def zX(p:Nat)(V:List Int)(s:List Nat):List ((Int×Int)×(Int×Int)):=(List.range s.length).flatMap fun i=>(List.range s.length).filterMap fun j=>
 match Nat.beq i j||Nat.beq (s.getD j 0) 0 with
 |true=>none
 |false=>some ((V.getD i 0,(xY.getD p []).getD (s.getD i 0) 0),(V.getD j 0,(xY.getD p []).getD (s.getD j 0-1) 0))
noncomputable def ltP:List ((Int×Int)×(Int×Int))→(Bool→Prop)→Prop
 | [],K=>K true
 |(a,b)::r,K=>mulOk a.1 a.2∧mulOk b.1 b.2∧(decide (0<b.1*b.2)=true→((a.1*a.2==0)=true→K false)∧((a.1*a.2==0)=false→(decide (b.1*b.2<a.1*a.2)=true→K false)∧(decide (b.1*b.2<a.1*a.2)=false→ltP r K)))∧(decide (0<b.1*b.2)=false→ltP r K)
noncomputable abbrev vlS(V:List Int):SV:= .vlist (V.map SV.sint)
noncomputable abbrev vlN(s:List Nat):SV:= .vlist (s.map fun n:Nat=>SV.int n)
noncomputable def seats2:List (List Nat):=[[0,1],[1,0],[0,2],[1,1],[2,0],[0,3],[1,2],[2,1],[3,0]]
noncomputable def seatsA:List (List Nat):=[[0,2],[1,1],[2,0],[0,3],[1,2],[2,1],[3,0],[1,3],[2,2],[3,1]]
noncomputable def seats3:List (List Nat):=[[1,0,0],[0,1,0],[0,0,1],[2,0,0],[0,2,0],[0,0,2],[1,1,0],[1,0,1],[0,1,1]]
noncomputable def lt2:List (Nat×Nat×List Nat):=seats2.map (fun s=>(725,0,s))++seats2.map (fun s=>(725,1,s))++seatsA.map fun s=>(725,2,s)
noncomputable def lt3:List (Nat×Nat×List Nat):=seats3.map (fun s=>(725,0,s))++seats3.map fun s=>(725,1,s)
theorem lt_2(w:World)(K:SV→Prop)(a b:Int):lt2.map (fun p=>yh w (P32 w) 60 p.1 0 [.int p.2.1,vlS [a,b],vlN p.2.2] [] st0 (yb K))=lt2.map fun p=>ltP (zX p.2.1 [a,b] p.2.2) fun c=>K (.bool c):=by kernel_rfl
theorem lt_3(w:World)(K:SV→Prop)(a b c:Int):lt3.map (fun p=>yh w (P32 w) 60 p.1 0 [.int p.2.1,vlS [a,b,c],vlN p.2.2] [] st0 (yb K))=lt3.map fun p=>ltP (zX p.2.1 [a,b,c] p.2.2) fun c=>K (.bool c):=by kernel_rfl
noncomputable def ltB:List ((Int×Int)×(Int×Int))→Bool
 | []=>true
 |(a,b)::r=>match decide (0<b.1*b.2) &&(a.1*a.2==0||decide (b.1*b.2<a.1*a.2))with
  |true=>false
  |false=>ltB r
noncomputable def shOk(x:(Int×Int)×(Int×Int)):Bool:=Nat.ble (Builtin.Int.intBits x.1.2) 64&&Nat.ble (Builtin.Int.intBits x.2.2) 64
theorem lt_sh2(a b:Int):(lt2.all fun p=>Nat.beq p.1 725&&(zX p.2.1 [a,b] p.2.2).all shOk)=true:=by kernel_rfl
theorem lt_sh3(a b c:Int):(lt3.all fun p=>Nat.beq p.1 725&&(zX p.2.1 [a,b,c] p.2.2).all shOk)=true:=by kernel_rfl
theorem mulOk_of{a b:Int}(h:Nat.ble (Builtin.Int.intBits b) 64=true):mulOk a b:=fun e=>by
 have:decide (Builtin.Int.intBits b>shortFactorBits)=false:=decide_eq_false (Nat.not_lt.mpr (Nat.le_of_ble_eq_true h))
 rw [this,Bool.and_false]at e
 cases e
theorem ltP_of{l:List ((Int×Int)×(Int×Int))}{K:Bool→Prop}:l.all shOk=true→K (ltB l)→ltP l K:=by
 induction l with
 |nil=>exact fun _ k=>k
 |cons x r ih=>
  intro h k
  obtain⟨h1,h2⟩:=zx h
  obtain⟨h3,h4⟩:=zx h1
  have k:K (match decide (0<x.2.1*x.2.2) &&(x.1.1*x.1.2==0||decide (x.2.1*x.2.2<x.1.1*x.1.2))with|true=>false|false=>ltB r):=k
  refine⟨mulOk_of h3,mulOk_of h4,fun e1=>⟨fun e2=> ?_,fun e2=>⟨fun e3=> ?_,fun e3=> ?_⟩⟩,fun e1=> ?_⟩
  ·rw [e1,e2]at k;exact k
  ·rw [e1,e2,e3]at k;exact k
  ·rw [e1,e2,e3]at k;exact ih h2 k
  ·rw [e1]at k;exact ih h2 k
noncomputable def ltH(w:World)(a:Nat):BT:=fun xs ks st=>some fun K=>∃p V,((p∈lt2∧V.length=2∨p∈lt3∧V.length=3)∧p.1=a∧xs=[.int p.2.1,vlS V,vlN p.2.2]∧ks=[])∧K (.tf true (ltB (zX p.2.1 V p.2.2))) st
theorem ltH_ok(w:World)(d a:Nat):BTOk w (d+28) (.ref a) (ltH w a):=fun xs ks t K z vs kvs e k q qk=>by
 cases e
 obtain⟨p,V,⟨hp,rfl,rfl,rfl⟩,kk⟩:=k
 have h:yh w (P32 w) 60 p.1 0 [.int p.2.1,vlS V,vlN p.2.2] [] st0 (yb fun v=>v= .bool (ltB (zX p.2.1 V p.2.2))∧z.st=z.st):=by
  rcases hp with⟨hp,hV⟩|⟨hp,hV⟩
  ·obtain⟨a,b,rfl⟩:=len2 hV
   exact(zl (lt_2 w _ a b) hp).mpr (ltP_of (zx (List.all_eq_true.mp (lt_sh2 a b) p hp)).2 ⟨rfl,rfl⟩)
  ·obtain⟨a,b,c,rfl⟩:=len3 hV
   exact(zl (lt_3 w _ a b c) hp).mpr (ltP_of (zx (List.all_eq_true.mp (lt_sh3 a b c) p hp)).2 ⟨rfl,rfl⟩)
 have h:=zM (K:=fun v st=>v= .bool (ltB (zX p.2.1 V p.2.2))∧st=z.st) (P32_ok w d) rfl rfl h q qk
 exact fun A E ha ok=>wm (h A E ha ok) fun v s r=>by
  rcases r with⟨S,q1,k1,k2⟩
  subst k1
  obtain rfl:=q1.inv
  exact .mk S .tf (k2▸kk)
noncomputable def smB(c:Int):Bool:=Nat.blt c.natAbs 1000000
noncomputable def smI:Operator→SV→SV→St→Tr:=fun op x y st=>(asN x).bind fun p=>(asN y).bind fun q=>match op with
 | .Mult=>zj ((!q.1&&smB q.2)||(!p.1&&smB p.2)) (some fun K=>K (.num (p.1||q.1) (p.2*q.2)) st)
 | .FloorDiv=>zj (!q.1&&(smB q.2&&q.2 !=0)) (some fun K=>K (.num (p.1||q.1) (p.2.fdiv q.2)) st)
 | .Mod=>zj (!q.1&&q.2 !=0) (some fun K=>K (.num (p.1||q.1) (p.2.fmod q.2)) st)
 |_=>none
noncomputable def sumI(x:SV)(st:St):Tr:=(zZ st x).bind fun us=>(zJ asN us).bind fun ns=>some fun K=>K (.num (ns.any (·.1)) (ns.map (·.2)).sum) st
section
variable {w:World}{d:Nat}
theorem smB_lt{c:Int}(h:smB c=true):c.natAbs<1000000:=Nat.blt_eq.mp h
theorem mulok_l{a b:Int}(h:a.natAbs<2^64):IntMulOk a b:= .of_left (by
 unfold Builtin.Int.intBits
 split
 ·decide
 ·rename_i h0
  exact(Nat.log2_lt fun q=>h0 (by rw [Int.natAbs_eq_zero.mp q];rfl)).mpr h)
theorem pylong_small{a b:Int}(h:smB b=true):Builtin.divisionGoesByPylong a b=false:=by
 have h1:=smB_lt h
 unfold Builtin.divisionGoesByPylong
 have:(if b==0 then 0 else b.natAbs.log2/30+1)≤300:=by
  split
  ·decide
  ·rename_i q
   have:b.natAbs.log2<30:=(Nat.log2_lt fun e=>q (by rw [Int.natAbs_eq_zero.mp e];rfl)).mpr (Nat.lt_trans h1 (by decide))
   rw [Nat.div_eq_of_lt this];decide
 have e:decide ((if b==0 then 0 else b.natAbs.log2/30+1)>300)=false:=decide_eq_false (Nat.not_lt.mpr this)
 simp only [e,Bool.false_and]
theorem smI_ok:OpOk w d (h2 x6 smI):=zH yO fun op x y t K z v u e k q q2 A E _ ok=>by
 obtain⟨p,e1,e⟩:=zz e
 obtain⟨r,e2,e⟩:=zz e
 obtain⟨m,rfl⟩:=zL e1 q
 obtain⟨n,rfl⟩:=zL e2 q2
 have sm:∀{c:Int},smB c=true→c.natAbs<2^64:=fun h=>Nat.lt_trans (smB_lt h) (by decide)
 induction op using Operator.casesOn with
 |Mult=>
  obtain⟨h,e⟩:=zv e
  cases e
  exact mul_int (ok.rep.endN k) (((Bool.or_eq_true _ _).mp h).elim (fun h=>y9 (sm (zx h).2)) fun h=>mulok_l (sm (zx h).2))
 |FloorDiv=>
  obtain⟨h,e⟩:=zv e
  cases e
  obtain⟨h1,h2⟩:=zx (zx h).2
  exact floordiv_int (bne_iff_ne.mp h2) (ok.rep.endN k) (.inl (pylong_small h1))
 |Mod=>
  obtain⟨h,e⟩:=zv e
  cases e
  exact mod_int' (bne_iff_ne.mp (zx h).2) (ok.rep.endN k)
 |_=>exact(zu rfl e).elim
theorem nus_vals{y:Y}{ns:List (Bool×Int)}:∀{vs:List Value},VRels y (ns.map nu) vs→∃ys:List (Int×Tok),vs=ys.map (fun p=>Value.int p.1 p.2)∧ys.map (·.1)=ns.map (·.2):=by
 induction ns with
 |nil=>exact fun q=>⟨[],q.nil_inv,rfl⟩
 |cons p ns ih=>
  intro vs q
  obtain⟨v,vs,rfl,a,q1⟩:=q.cons_inv
  obtain⟨t,rfl⟩:=a.inv
  obtain⟨ys,e1,e2⟩:=ih q1
  exact⟨(p.2,t)::ys,congrArg _ e1,congrArg _ e2⟩
theorem sumI_ok:BTOk w d (.builtin "sum") (b1 sumI):=yx fun x t K z v e k q A E ha ok=>by
 obtain⟨us,e1,e⟩:=zz e
 obtain⟨ns,e2,e⟩:=zz e
 cases e
 obtain rfl:=xf e2
 rcases zY e1 ok.rep q with @⟨a,vs,c,ho,hr⟩
 obtain⟨ys,e3,e4⟩:=nus_vals hr
 obtain rfl:vs=intItems ys.toArray:=Array.toList_inj.mp (by rw [e3];exact(Array.toList_map ..).symm)
 refine sum_intListG ha.1 ⟨_,ho,rfl,_,rfl⟩ fun h' tk t' hk=> ?_
 rw [preSum_eq,show List.take ys.toArray.size (ys.map (·.1))=ys.map (·.1)from List.take_of_length_le (Nat.le_of_eq (List.length_map ..)),e4]
 exact .mk (ok.rep.grow (s:={z.s with heap:=h',toks:=tk}) hk (.same rfl rfl)) .num k
end
noncomputable def P33(w:World):Prims:={P32 w with
 op:=yw (h2 x6 smI) (P32 w).op
 call:=zp (onA 725 (ltH w 725))<|zp (onB false "sum" (b1 sumI))<|zp (onB false "sorted" (b1 (frz1 sortI))) (P32 w).call}
theorem P33_ok(w:World)(d:Nat):Sound w (P33 w) (d+28):={P32_ok w (d+1)with
 op:=smI_ok.or (P32_ok w (d+1)).op
 call:=CallOk.or (BTOk.at (ltH_ok w d 725))<|CallOk.or (BTOk.on (ty:=false) sumI_ok)<|CallOk.or (BTOk.on (ty:=false) (frz1_ok sortI_ok)) (P32_ok w (d+1)).call}
structure LC1 where
 fn:Str
 fp:Pos
 a:Expr
 p:Pos
noncomputable abbrev LC1.exp(c:LC1):Expr:= .Call (.Name c.fn c.fp) [c.a] [] c.p
noncomputable def lnOf(e:Expr):LC1:=match e with
 | .Call f es _ p=>⟨(zT f).1,(zT f).2,hdE es,p⟩
 |_=>⟨"",p0,e00,p0⟩
noncomputable def asBi(x:SV):Option String:=match x with
 | .top v=>(match v with
  | .builtin s=>some s
  |_=>none)
 |_=>none
theorem asBi_ok{x:SV}{s:String}(h:asBi x=some s):x= .top (.builtin s):=by
 induction x using SV.casesOn with
 |top v=>
  induction v using Value.casesOn with
  |builtin=>cases h;rfl
  |_=>exact(zu rfl h).elim
 |_=>exact(zu rfl h).elim
noncomputable def lenT(w:World)(P:Prims)(n:Nat)(c:LC1):SpT:=fun e fr st K=>e=c.exp∧zg ((y6 fr st c.fn).bind asBi) fun id=>zI (id=="len") (vc w P n (.E c.a fr st fun x st1=>zg (zZ st1 x) fun xs=>xs.length≤1000∧K (.num true xs.length) st1))
theorem lenT_ok{w:World}{P:Prims}{d n:Nat}{c:LC1}(S:Sound w P d)(hd:(c.fn=="__debug__")=false)(hs:yV [c.a]=true):SpOk w d (lenT w P n c):=fun e fr K z env h ev A E ha ok=>by
 obtain⟨rfl,h⟩:=h
 obtain⟨id,hf,h⟩:=zr h
 obtain⟨hid,h⟩:=zm h
 obtain rfl:=eq_of_beq hid
 obtain⟨u0,hf,hu⟩:=zz hf
 rw [asBi_ok hu]at hf
 refine wpAny_bind (wpAny_Name (yX hf ok ev fun u q=> ?_) hd)
 cases q.inv
 refine yG (star_ok hs).1 rfl (spliced_more ((ya S h z env rfl ev).go ok ha fun z1 x v S1 o1 q1 k1=>spliced_nil ?_) (ym (yr hs).1))
 obtain⟨xs,e1,hl,k⟩:=zr k1
 have e2:b1 lenB [x] [] z1.st=some fun K=>K (.int xs.length) z1.st:=by
  show lenB x z1.st=_
  unfold lenB
  rw [e1]
  show zj (Nat.ble xs.length 1000000) _=_
  rw [Nat.ble_eq_true_of_le (Nat.le_trans hl (by decide))];rfl
 refine wpAny_pure ⟨⟨.machine,fun Q q=>wpAny_pure q⟩,?_⟩
 refine wm (lenB_ok (d:=d) [x] [] _ (fun y st'=>y= .num false xs.length∧st'=z1.st) z1 [v] [] e2 ⟨rfl,rfl⟩ (.cons q1 .nil) .nil A E ha o1) fun u s r=> ?_
 rcases r with⟨S2,q2,k1,k2⟩
 subst k1
 obtain⟨t,rfl⟩:=q2.inv
 exact .from S1 (.mk S2 .num (k2▸k))
noncomputable abbrev dvB:List Stmt:=(tp 41).2.1
noncomputable def ifB(s:Stmt):List Stmt:=match s with
 | .If _ b _ _=>b
 |_=> []
noncomputable def binR(e:Expr):Expr:=match e with
 | .BinOp _ _ r _=>r
 |_=>e00
noncomputable abbrev dvC:LC1:=lnOf (binR (lcP (asgE (sAt (ifB (sAt dvB 2)) 5))).1)
noncomputable def P34(w:World):Prims:={P33 w with frz:=fun l=> [634,636,649,650,666,667].elem l}
theorem P34_ok(w:World)(d:Nat):Sound w (P34 w) (d+28):={P33_ok w d with}
noncomputable def Prims.spB(P:Prims)(b:Expr→Bool)(T:SpT):Prims:={P with special:=fun e fr st=>orE (zj (b e) (some fun K=>T e fr st K)) (P.special e fr st)}
theorem Sound.spB{w:World}{P:Prims}{d:Nat}{b:Expr→Bool}{T:SpT}(S:Sound w P d)(h:SpOk w d T):Sound w (P.spB b T) d:=
 {S with special:=fun e fr t K z env he k ev=>(yi he).elim (fun he=>let⟨_,he⟩:=zv he;h e fr K z env (Eq.mpr (congrFun (Option.some.inj he) K) k) ev) fun he=>S.special e fr t K z env he k ev}
noncomputable def lenLC(e:Expr):Bool:=Nat.beq (lineE e) 669&&isK 8 (lnOf e).a
noncomputable def P35(w:World):Prims:=(P34 w).spB lenLC (lenT w (P34 w) 40 dvC)
theorem P35_ok(w:World)(d:Nat):Sound w (P35 w) (d+28):=(P34_ok w d).spB (lenT_ok (P34_ok w d) (by kernel_rfl) (by kernel_rfl))
noncomputable def allR:Nat→(Nat→Prop)→Prop
 |0,_=>True
 |n+1,f=>allR n f∧f n
theorem allR_of{f:Nat→Prop}{n:Nat}(h:allR n f){r:Nat}(hr:r<n):f r:=by
 induction n with
 |zero=>exact(Nat.not_lt_zero _ hr).elim
 |succ n ih=>exact(Nat.lt_succ_iff_lt_or_eq.mp hr).elim (ih h.1) fun e=>e▸h.2
noncomputable def modC:Operator→SV→SV→St→Tr:=fun op x y st=>(asN x).bind fun p=>(asN y).bind fun q=>match op with
 | .Mod=>zj (p.1&&(!q.1&&(decide (0<q.2) &&decide (q.2≤4)))) (some fun K=>allR q.2.toNat fun r=>p.2.fmod q.2=r→K (.int r) st)
 |_=>none
section
variable {w:World}{d:Nat}
theorem modC_ok:OpOk w d (h2 x6 modC):=zH yO fun op x y t K z v u e k q q2 A E _ ok=>by
 obtain⟨p,e1,e⟩:=zz e
 obtain⟨r,e2,e⟩:=zz e
 obtain⟨m,rfl⟩:=zL e1 q
 obtain⟨n,rfl⟩:=zL e2 q2
 induction op using Operator.casesOn with
 |Mod=>
  obtain⟨h,e⟩:=zv e
  cases e
  have h0:0<r.2:=of_decide_eq_true (zx (zx (zx h).2).2).1
  have l0:0≤p.2.fmod r.2:=Int.fmod_nonneg_of_pos _ h0
  have l1:p.2.fmod r.2<r.2:=Int.fmod_lt_of_pos _ h0
  have e3:p.2.fmod r.2=((p.2.fmod r.2).toNat:Nat):=(Int.toNat_of_nonneg l0).symm
  have k:=allR_of k ((Int.toNat_lt_toNat h0).mpr l1) e3
  refine mod_int' (fun e=>by rw [e]at h0;exact absurd h0 (by decide)) ?_
  have k:(fun(x:SV) st=>K (.num false (p.2.fmod r.2)) st) .non z.st:=by rw [e3];exact k
  exact ok.rep.endN k
 |_=>exact(zu rfl e).elim
end
noncomputable def slc2:Unit→SV→SV→St→Tr:=fun _ x i st=>(asSlcV i).bind fun p=>(zZ st x).bind fun xs=>(w9 p.1).bind fun a=>(w9 p.2).bind fun b=>zj (decide (0≤a) &&decide (a≤b)) (some fun K=>(xs.length≤1000000∧b.toNat≤xs.length∧zt ((xs.drop a.toNat).take (b.toNat-a.toNat))=true)∧K (.vlist ((xs.drop a.toNat).take (b.toNat-a.toNat))) st)
theorem slc2_ok{w:World}{d:Nat}:OpOk w d (h2 wd slc2):=zH (c:=fun _=>.sub) xV fun _ x i t K z v u e k q q2=>by
 obtain⟨p,e1,e⟩:=zz e
 obtain⟨xs,e2,e⟩:=zz e
 obtain⟨a,e3,e⟩:=zz e
 obtain⟨b,e4,e⟩:=zz e
 obtain⟨h,e⟩:=zv e
 cases e
 obtain⟨h0,hab⟩:=zx h
 obtain⟨n,rfl⟩:=Int.eq_ofNat_of_zero_le (of_decide_eq_true h0)
 obtain⟨m,rfl⟩:=Int.eq_ofNat_of_zero_le (Int.le_trans (of_decide_eq_true h0) (of_decide_eq_true hab))
 refine slc_core e2 (fun a b q4 q5 vs h=> ?_) k.1.1 k.1.2.2 q (asSlcV_ok e1▸q2) k.2
 obtain⟨t1,rfl⟩:=yz e3 q4
 obtain⟨t2,rfl⟩:=yz e4 q5
 refine⟨_,_,.int _ _,.int _ _,?_⟩
 rw [slicePick_run vs n m (h.size▸k.1.2.1) (Int.ofNat_le.mp (of_decide_eq_true hab))]
 exact(h.drop n).take _
noncomputable def P36(w:World):Prims:={P35 w with
 op:=yw (h2 x6 modC)<|yw (h2 wd slc2) (P35 w).op
 frz:=fun l=> [812,817,825,827,838].elem l}
theorem P36_ok(w:World)(d:Nat):Sound w (P36 w) (d+28):={P35_ok w d with op:=modC_ok.or<|slc2_ok.or (P35_ok w d).op}
noncomputable def addW:Operator→SV→SV→St→Tr:=fun op x y st=>(zZ st x).bind fun a=>(zZ st y).bind fun b=>(zJ asN (a++b)).bind fun ns=>zj (isAdd op&&((zt a&&zt b) &&((nsIx st).isSome&&Nat.ble (a.length+b.length) sizeLine))) (some fun K=>K (.vlist ((ns.map (·.2)).map SV.sint)) st)
theorem addW_ok{w:World}{d:Nat}:OpOk w d (h2 x6 addW):=zH yO fun op x y t K z v u e k q q2=>by
 obtain⟨a,e1,e⟩:=zz e
 obtain⟨b,e2,e⟩:=zz e
 obtain⟨ns,e3,e⟩:=zz e
 obtain⟨h,e⟩:=zv e
 cases e
 obtain⟨g1,g2⟩:=zx h
 have e4:h2 x6 binL (.bin op) [x,y] z.st=some (fun K:KV=>K (.vlist (a++b)) z.st):=by
  show zj (isAdd op) ((zZ z.st x).bind fun a=>(zZ z.st y).bind fun b=>_)=_
  rw [e1,e2,g1]
  show zj (zt a&&zt b&&((nsIx z.st).isSome&&(a.length+b.length).ble sizeLine)) _=_
  rw [g2];rfl
 have h:W w d VRel (fun v st=>v= .vlist (a++b)∧st=z.st) z (binaryOp op v u):=binL_ok (.bin op) [x,y] _ _ z [v,u] e4 ⟨rfl,rfl⟩ (.cons q (.cons q2 .nil))
 exact fun A E ha ok=>wm (h A E ha ok) fun v s r=>by
  rcases r with⟨S,q3,k1,k2⟩
  subst k1
  rcases q3.inv with⟨_,⟨g,hv⟩⟩
  rw [xf e3]at hv
  exact .mk S (.vlist (ze (fun _=>rfl) _) g (nus_wk hv)) (k2▸k)
noncomputable def lenC(x:SV)(st:St):Tr:=(zZ st x).bind fun xs=>some fun K=>xs.length≤1000000∧K (.int xs.length) st
theorem lenC_ok{w:World}{d:Nat}:BTOk w d (.builtin "len") (b1 lenC):=yx fun x t K z v e k q=>by
 obtain⟨xs,e1,e⟩:=zz e
 cases e
 refine lenB_ok (d:=d) [x] [] (fun K=>K (.int xs.length) z.st) K z [v] [] ?_ k.2 (.cons q .nil) .nil
 show lenB x z.st=_
 unfold lenB
 rw [e1]
 show zj (Nat.ble xs.length 1000000) _=_
 rw [Nat.ble_eq_true_of_le k.1];rfl
noncomputable def P37(w:World):Prims:={P36 w with
 op:=yw (h2 x6 addW) (P36 w).op
 call:=zp (onB false "len" (b1 lenC)) (P36 w).call}
theorem P37_ok(w:World)(d:Nat):Sound w (P37 w) (d+28):={P36_ok w d with
 op:=addW_ok.or (P36_ok w d).op
 call:=CallOk.or (BTOk.on (ty:=false) lenC_ok) (P36_ok w d).call}
noncomputable abbrev yt:List Stmt:=(tp 51).2.1
noncomputable def yp:FrS:=⟨4,[("members",8),("mask",7),("party",6),("size",5)],(tp 51).2.2,.ref 729⟩
noncomputable def absI(a:Int):Int:=if a<0 then-a else a
noncomputable def lwD:List Int:=[0,0,2,11,5,3,1]
noncomputable def lwN(s:List Int):List Int:=s.take 7++lwD.drop s.length
noncomputable def lwV(ns:List Int)(n:Nat):List Int:=(List.range n).map fun i=>1+(absI (ns.getD (3+i) 0)).fmod 12
noncomputable def lwS(s ns:List Int)(p n k:Nat)(wy:Str)(q:Nat):St:=⟨[(9,.list (lwD.map SV.int)),(8,.cell none),(7,.cell none),(6,.cell none),(5,.cell (some (.int (5-n:Nat)))),(4,.ns "frame" [("script",vlS s),("numbers",vlS ns),("pick",.int p),("parties",.int n),("seats",.int k),("votes",vlS (lwV ns n)),("way",.str wy),("apart",.int q)])],12⟩
noncomputable def lwQ(ns:List Int)(p n k:Nat)(wy:Str)(J:Nat→Prop):Prop:=match Nat.blt k 3&&Nat.blt p 2&&wy=="brute-force" with
 |true=>allR 4 fun q=>(absI (ns.getD 6 0)).fmod 4=q→J q
 |false=>J n
noncomputable def lwW(ns:List Int)(k:Nat)(J:Str→Prop):Prop:=match Nat.blt k 3 with
 |true=>allR 2 fun t=>((absI (ns.getD 6 0)).fdiv 4).fmod 2=t→J (match t with|0=>"brute-force"|_=>"branch-and-bound")
 |false=>J "brute-force"
noncomputable def lwE(p:Nat):Nat:=match p with
 |2=>1
 |_=>0
noncomputable def lwK(ns:List Int)(p n:Nat)(J:Nat→Nat→Nat→Str→Nat→Prop):Prop:=allR (5-n) fun r=>(absI (ns.getD 2 0)).fmod (5-n:Nat)=r→((ns.map SV.sint).length≤1000000∧3+n≤(ns.map SV.sint).length∧zt (((ns.map SV.sint).drop 3).take (3+n-3))=true)∧lwW ns (1+r+lwE p) fun wy=>lwQ ns p n (1+r+lwE p) wy fun q=>J p n (1+r+lwE p) wy q
noncomputable def lwP(ns:List Int)(p:Nat)(J:Nat→Nat→Nat→Str→Nat→Prop):Prop:=match p with
 |2=>lwK ns 2 2 J
 |p=>allR 2 fun r=>(absI (ns.getD 1 0)).fmod 2=r→lwK ns p (2+r) J
noncomputable def lwH(s:List Int)(J:Nat→Nat→Nat→Str→Nat→Prop):Prop:=((s.map SV.sint).length≤1000000∧zt ((s.map SV.sint).take 7)=true)∧(s.map SV.sint).length≤1000000∧((lwD.map SV.int).length≤1000000∧zt ((lwD.map SV.int).drop (s.map SV.sint).length)=true)∧allR 3 fun p=>(absI ((lwN s).getD 0 0)).fmod 3=p→lwP (lwN s) p J
theorem lw_h(w:World)(K:KF)(a b c d e f g h:Int)(r:List Int):[[],[a],[a,b],[a,b,c],[a,b,c,d],[a,b,c,d,e],[a,b,c,d,e,f],[a,b,c,d,e,f,g],a::b::c::d::e::f::g::h::r].map (fun s=>newF (.ref 729) (tp 51).2.2 [] "frame" [("script",vlS s)] st0 fun fr st1=>vc w (P37 w) 80 (.Ss (yt.take 9) fr st1 K))=[[],[a],[a,b],[a,b,c],[a,b,c,d],[a,b,c,d,e],[a,b,c,d,e,f],[a,b,c,d,e,f,g],a::b::c::d::e::f::g::h::r].map fun s=>lwH s fun p n k wy q=>K .next (lwS s (lwN s) p n k wy q):=by kernel_rfl
noncomputable def lwQl(p n k:Nat)(wy:Str):List Nat:=match Nat.blt k 3&&Nat.blt p 2&&wy=="brute-force" with
 |true=> [0,1,2,3]
 |false=> [n]
noncomputable def lwWl(k:Nat):List Str:=match Nat.blt k 3 with
 |true=> ["brute-force","branch-and-bound"]
 |false=> ["brute-force"]
noncomputable def lwT:List (Nat×Nat×Nat×Str×Nat):=[(0,2),(0,3),(1,2),(1,3),(2,2)].flatMap fun x:Nat×Nat=>(List.range (5-x.2)).flatMap fun r=>(lwWl (1+r+lwE x.1)).flatMap fun wy=>(lwQl x.1 x.2 (1+r+lwE x.1) wy).map fun q=>(x.1,x.2,1+r+lwE x.1,wy,q)
section
variable {ns:List Int}{p n k:Nat}{wy:Str}
theorem allR_in{f:Nat→Prop}{n:Nat}(h:∀r,r<n→f r):allR n f:=by
 induction n with
 |zero=>trivial
 |succ n ih=>exact⟨ih fun r hr=>h r (Nat.lt_succ_of_lt hr),h n (Nat.lt_succ_self n)⟩
theorem lwQ_of{J:Nat→Prop}(h:∀q∈lwQl p n k wy,J q):lwQ ns p n k wy J:=by
 unfold lwQ
 unfold lwQl at h
 cases c:Nat.blt k 3&&Nat.blt p 2&&wy=="brute-force" with
 |true=>
  rw [c]at h
  exact allR_in fun r hr _=>h r ((by decide:∀r,r<4→r∈[0,1,2,3]) r hr)
 |false=>rw [c]at h;exact h n (.head _)
theorem lwW_of{J:Str→Prop}(h:∀wy∈lwWl k,J wy):lwW ns k J:=by
 unfold lwW
 unfold lwWl at h
 cases c:Nat.blt k 3 with
 |true=>
  rw [c]at h
  exact⟨⟨trivial,fun _=>h _ (.head _)⟩,fun _=>h _ (.tail _ (.head _))⟩
 |false=>rw [c]at h;exact h _ (.head _)
theorem pure_part{ns:List Int}{a b:Nat}:zt (((ns.map SV.sint).drop a).take b)=true:=by
 rw [←List.map_drop,←List.map_take]
 exact ze (fun _=>rfl) _
theorem lwK_of{J:Nat→Nat→Nat→Str→Nat→Prop}(h7:ns.length=7)(hn:n≤3)(hp:(p,n)∈[(0,2),(0,3),(1,2),(1,3),(2,2)])(h:∀x∈lwT,J x.1 x.2.1 x.2.2.1 x.2.2.2.1 x.2.2.2.2):lwK ns p n J:=
 allR_in fun r hr _=>⟨⟨by rw [List.length_map,h7];decide,by rw [List.length_map,h7];exact Nat.add_le_add_left (Nat.le_trans hn (by decide:3≤4)) 3,pure_part⟩,lwW_of fun wy hw=>lwQ_of fun q hq=>
  h (p,n,1+r+lwE p,wy,q) (List.mem_flatMap.mpr ⟨(p,n),hp,List.mem_flatMap.mpr ⟨r,List.mem_range.mpr hr,List.mem_flatMap.mpr ⟨wy,hw,List.mem_map.mpr ⟨q,hq,rfl⟩⟩⟩⟩)⟩
theorem lwN_len(s:List Int):(lwN s).length=7:=by
 unfold lwN
 rw [List.length_append,List.length_take,List.length_drop]
 rcases Nat.le_total 7 s.length with h|h
 ·rw [Nat.min_eq_left h,Nat.sub_eq_zero_of_le (show lwD.length≤s.length from h)]
 ·rw [Nat.min_eq_right h];exact Nat.add_sub_cancel' h
theorem lwH_of{s:List Int}{J:Nat→Nat→Nat→Str→Nat→Prop}(hs:s.length≤63)(h:∀x∈lwT,J x.1 x.2.1 x.2.2.1 x.2.2.2.1 x.2.2.2.2):lwH s J:=by
 have l7:=lwN_len s
 have hl:(s.map SV.sint).length≤1000000:=by rw [List.length_map];exact Nat.le_trans hs (by decide)
 refine⟨⟨hl,pure_part (a:=0)⟩,hl,⟨by decide,?_⟩,⟨⟨⟨trivial,fun _=> ?_⟩,fun _=> ?_⟩,fun _=> ?_⟩⟩
 ·rw [←List.map_drop];exact ze (fun _=>rfl) _
 ·exact⟨⟨trivial,fun _=>lwK_of l7 (by decide) (by decide) h⟩,fun _=>lwK_of l7 (by decide) (by decide) h⟩
 ·exact⟨⟨trivial,fun _=>lwK_of l7 (by decide) (by decide) h⟩,fun _=>lwK_of l7 (by decide) (by decide) h⟩
 ·exact lwK_of l7 (by decide) (by decide) h
end
noncomputable def wk1(x:SV):SV:=match x with
 | .num _ i=>.num true i
 |x=>x
noncomputable def softF(ks:List (Str×SV)):List (Str×SV):=ks.map fun p=>(p.1,wk1 p.2)
theorem VRel.wk1{y:Y}{x:SV}{v:Value}(q:VRel y x v):VRel y (Mine.wk1 x) v:=by
 induction x using SV.casesOn with
 |num s i=>
  obtain⟨t,rfl⟩:=q.inv
  exact .num
 |_=>exact q
theorem FRels.soft{y:Y}{fs l}(q:FRels y fs l):FRels y (softF fs) l:=by
 induction q with
 |nil=>exact .nil
 |cons a _ ih=>exact .cons a.wk1 ih
noncomputable def voH(w:World):BT:=fun xs ks st=>some (yh w (P29 w) 60 703 1 xs (softF ks) st)
theorem voH_ok(w:World)(d:Nat):BTOk w (d+25) (.ref 703) (voH w):=fun xs ks t K z vs kvs e k q qk=>by
 cases e
 exact inlT_ok (P29_ok w d) k q qk.soft
noncomputable def P38(w:World):Prims:={P37 w with call:=zp (onA 703 (voH w)) (P37 w).call}
theorem P38_ok(w:World)(d:Nat):Sound w (P38 w) (d+28):={P37_ok w d with call:=CallOk.or (BTOk.at (voH_ok w (d+3))) (P37_ok w d).call}
noncomputable def lwX(sc nu p k wy:SV)(n:Nat)(V:List Int)(q:Nat):St:=⟨[(9,.list (lwD.map SV.int)),(8,.cell none),(7,.cell none),(6,.cell none),(5,.cell (some (.int (5-n:Nat)))),(4,.ns "frame" [("script",sc),("numbers",nu),("pick",p),("parties",.int n),("seats",k),("votes",vlS V),("way",wy),("apart",.int q)])],12⟩
noncomputable def lwKp:Kp:=⟨["pick","parties","seats","votes","way","profile","due","divisions"],["due","divisions"],["pick","seats","way"]⟩
noncomputable def lwMi(i:Nat)(p k wy:SV)(n:Nat)(V:List Int)(P:SV)(c6 c7 c8:Option SV)(due div:List SV):St:=⟨[(4,.ns "part" [("pick",p),("parties",.int n),("seats",k),("votes",vlS V),("way",wy),("profile",P),("due",.ref i),("divisions",.ref (i+1))]),(5,.cell (some (.int (5-n:Nat)))),(6,.cell c6),(7,.cell c7),(8,.cell c8),(i,.list due),(i+1,.list div)],i+7⟩
noncomputable abbrev lwM:=lwMi 12
noncomputable def nxtK(J:St→Prop):KF:=fun f st=>match f with
 | .next=>J st
 |_=>False
noncomputable def pfH(v:SV)(x:Str)(u:SV):SV:=match x=="profile" with
 |true=>v
 |false=>(match x=="seats" with
  |true=>wk1 u
  |false=>u)
noncomputable def pfK(J:St→Prop):KF:=nxtK fun st=>zg (nsL st 4) fun f=>zg (f.2.lookup ("profile":Str)) fun x=>zg (y5 6 st x) fun p=>zg (nsL p.2 4) fun g=>zK 9 12 lwKp J (p.2.put 4 (.ns "part" (g.2.map fun q=>(q.1,pfH p.1 q.1 q.2))))
noncomputable def addC(w:World)(bl:List Int)(wt:Int)(L:List (List Int×Int))(K:List (List Int×Int)→Prop):Prop:=(∀p∈bl.map fun x=>(false,x),p.2∈range6∧∀s m,CsK.non=CsK.num s m→p.2<m)∧(yl (bl.map fun x=>(false,x))).length=(bl.map fun x=>(false,x)).length∧(decide (wt≤0)=true→False)∧(decide (wt≤0)=false→
 (!zy w)=(!zy w)∧(∀s m,CsK.num false 6=CsK.num s m→∀n∈yl (bl.map fun x=>(false,x)),n<m)∧(decide (wt≤0)=true→False)∧(decide (wt≤0)=false→(L.map (zk (!zy w))).length≤1000000∧K (L++[(yl (bl.map fun x=>(false,x)),wt)])))
noncomputable def blk(n i:Nat):List Int:=(List.range (5-n)).map fun k=>((i*(5-n)+k:Nat):Int)
noncomputable def votC(w:World)(n q i:Nat)(v:Int)(L:List (List Int×Int))(K:List (List Int×Int)→Prop):Prop:=(decide (1<v)=true→match Nat.beq q i with
  |true=>addC w (blk n i) 1 L fun L=>addC w (blk n i) (v-1) L K
  |false=>addC w (blk n i) (v-0) L K)∧(decide (1<v)=false→addC w (blk n i) (v-0) L K)
noncomputable def sixC(R:Prop):Prop:=(0:Int).natAbs≤50∧(1:Int).natAbs≤50∧(2:Int).natAbs≤50∧(3:Int).natAbs≤50∧(4:Int).natAbs≤50∧(5:Int).natAbs≤50∧R
theorem pf_2(w:World)(J:St→Prop)(sc nu p wy:SV)(k:Int)(a b:Int):[0,1,2,3].map (fun q=>vc w (P38 w) 60 (.Ss ((yt.drop 9).take 4) yp (lwX sc nu p (.int k) wy 2 [a,b] q) (pfK J)))=[0,1,2,3].map fun q=>sixC<|votC w 2 q 0 a [] fun L=>votC w 2 q 1 b L fun L=>(zt []=true∧zt []=true∧True)∧(p.pure=true∧(SV.sint k).pure=true∧wy.pure=true∧True)∧J (lwM p (.sint k) wy 2 [a,b] (zw (!zy w) L) (some (.int 1)) none none [] []):=by kernel_rfl
theorem pf_3(w:World)(J:St→Prop)(sc nu p wy:SV)(k:Int)(a b c:Int):[0,1,2,3].map (fun q=>vc w (P38 w) 60 (.Ss ((yt.drop 9).take 4) yp (lwX sc nu p (.int k) wy 3 [a,b,c] q) (pfK J)))=[0,1,2,3].map fun q=>sixC<|votC w 3 q 0 a [] fun L=>votC w 3 q 1 b L fun L=>votC w 3 q 2 c L fun L=>(zt []=true∧zt []=true∧True)∧(p.pure=true∧(SV.sint k).pure=true∧wy.pure=true∧True)∧J (lwM p (.sint k) wy 3 [a,b,c] (zw (!zy w) L) (some (.int 2)) none none [] []):=by kernel_rfl
noncomputable def niL:List (Nat×Nat):=[(2,0),(2,1),(3,0),(3,1),(3,2)]
theorem blk_ok:∀x∈niL,(∀c∈blk x.1 x.2,c∈range6∧c<6)∧yl ((blk x.1 x.2).map fun x=>(false,x))=blk x.1 x.2:=by decide+kernel
noncomputable def vs1(n q i:Nat)(v:Int):List (List Int×Int):=match decide (1<v) &&Nat.beq q i with
 |true=> [(blk n i,1),(blk n i,v-1)]
 |false=> [(blk n i,v-0)]
section
variable {w:World}{n q i:Nat}{v:Int}{L:List (List Int×Int)}{K:List (List Int×Int)→Prop}
theorem addC_of(h:(n,i)∈niL)(hv:0<v)(hl:L.length≤10)(k:K (L++[(blk n i,v)])):addC w (blk n i) v L K:=by
 obtain⟨h1,h2⟩:=blk_ok _ h
 have no:¬decide (v≤0)=true:=fun e=>Int.not_le.mpr hv (of_decide_eq_true e)
 unfold addC
 rw [h2]
 refine⟨fun p m=> ?_,(List.length_map ..).symm,fun e=>no e,fun _=>⟨rfl,fun s m e x mx=> ?_,fun e=>no e,fun _=>⟨?_,k⟩⟩⟩
 ·obtain⟨x,m',rfl⟩:=List.mem_map.mp m
  exact⟨(h1 x m').1,fun _ _ e=>CsK.noConfusion e⟩
 ·cases e;exact(h1 x mx).2
 ·rw [List.length_map];exact Nat.le_trans hl (by decide)
theorem votC_of(h:(n,i)∈niL)(hv:0<v)(hl:L.length≤9)(k:K (L++vs1 n q i v)):votC w n q i v L K:=by
 unfold vs1 at k
 have one:K (L++[(blk n i,v-0)])→addC w (blk n i) (v-0) L K:=fun k=>addC_of h (by rw [Int.sub_zero];exact hv) (Nat.le_succ_of_le hl) k
 refine⟨fun e=> ?_,fun e=> ?_⟩
 ·rw [e]at k
  cases c:Nat.beq q i with
  |true=>
   rw [c]at k
   refine addC_of h (by decide) (Nat.le_succ_of_le hl) (addC_of h (Int.sub_pos_of_lt (of_decide_eq_true e)) ?_ ?_)
   ·rw [List.length_append];exact Nat.succ_le_succ hl
   ·rw [List.append_assoc];exact k
  |false=>rw [c]at k;exact one k
 ·rw [e]at k;exact one k
end
theorem sixC_of{R:Prop}(h:R):sixC R:=⟨by decide,by decide,by decide,by decide,by decide,by decide,h⟩
section
open PySem.MeetsSeq PySem.MeetsSeq2 PySem.MeetsSeq3 PySem.SeqAt
inductive IL(s:Shared):Value→List Int→Prop
 |mk {b vs k l}:s.heap.get? b=some (listOf vs k)→IntsAre vs.toList l→IL s (.ref b) l
theorem isL{s:Shared}{b:Addr}{vs:Array Value}{k:Nat}(h:s.heap.get? b=some (listOf vs k)):s.heap.IsList b vs.toList.toArray:=⟨_,h,rfl,k,rfl⟩
theorem ints_uniq{vs:List Value}{l m:List Int}(h:IntsAre vs l)(h2:IntsAre vs m):l=m:=by
 induction h generalizing m with
 |nil=>cases h2;rfl
 |cons n t _ ih=>cases h2 with|cons _ _ h2=>exact congrArg _ (ih h2)
theorem ints_at{vs:List Value}{l:List Int}(h:IntsAre vs l):∀i:Nat,(vs[i]? =none∧l.drop i=[])∨∃(n:Int) (t:Tok),vs[i]? =some (.int n t)∧l.drop i=n::l.drop (i+1):=by
 induction h with
 |nil=>exact fun i=>.inl ⟨rfl,List.drop_nil⟩
 | @cons n t _ _ _ ih=>
  intro i
  cases i with
  |zero=>exact .inr ⟨n,t,rfl,rfl⟩
  |succ i=>exact ih i
section
variable {w:World}{d:Nat}{A:Around}{E:Value→Shared→Prop}{s:Shared}{v u:Value}{l m:List Int}
theorem IL.uniq(h:IL s v l)(h2:IL s v m):l=m:=by
 cases h with
 |mk e i=>cases h2 with
  |mk e2 i2=>cases Option.some.inj (e.symm.trans e2);exact ints_uniq i i2
theorem IL.eq(h:IL s v l)(h2:IL s u m)(hu:A.in1.units+64<cLine):EqAt A.in1 s v u (decide (l=m)):=by
 cases h with
 |mk e i=>cases h2 with
  |mk e2 i2=>exact keq_ints (isL e) i (isL e2) i2 hu
theorem IL.type{M:Model}(h:IL s v l):Looks M s.heap (typeOf v) (.type "list"):=by
 cases h with
 |mk e _=>exact(Looks.ld e).andThen .now
theorem IL.is(h:IL s v l):s.TypeIs v "list":=by
 cases h with
 |mk e _=>exact⟨_,e,rfl⟩
theorem lt_from{a b:Addr}{vs us:Array Value}{k n:Nat}{R:Result→Shared→Prop}(ha:s.heap.get? a=some (listOf vs k))(hb:s.heap.get? b=some (listOf us n))(hi:IntsAre vs.toList l)(hj:IntsAre us.toList m):∀(f i:Nat),l.length=i+f→i≤m.length→R (.ok (.ret (.bool (decide (l.drop i<m.drop i))))) s→
  codeAny (model pw w) A (.builtin "list.__eq__.loop" ⟨[.ref a,.ref b,rawInt i,rawInt 0],[]⟩) R s:=fun f=>by
 have s1:vs.size=l.length:=hi.length
 have s2:us.size=m.length:=hj.length
 induction f with
 |zero=>
  intro i h1 h2 hR
  replace h1:l.length=i:=h1
  refine codeAny_builtin entry_eq_loop ?_
  rw [Around.under_plainId plain_eq_loop _]
  refine wpAny_bind (listItems_at ha rfl (wpAny_bind (listItems_at hb rfl ?_)))
  have e1:vs[(i:Int).toNat]? =none:=Array.getElem?_eq_none (Nat.le_of_eq (s1.trans h1))
  rw [e1]
  refine wpAny_bind (listItems_at ha rfl (wpAny_bind (listItems_at hb rfl (wpAny_pure ?_))))
  have e:decide (vs.size<us.size)=decide (l.drop i<m.drop i):=by
   rw [List.drop_of_length_le (Nat.le_of_eq h1),s1,s2,h1]
   cases q:m.drop i with
   |nil=>exact decide_eq_false (Nat.not_lt.mpr (List.drop_eq_nil_iff.mp q))|>.trans (decide_eq_false (List.lt_irrefl _)).symm
   |cons x r=>exact decide_eq_true (Nat.lt_of_not_le fun q2=>nomatch (List.drop_eq_nil_iff.mpr q2).symm.trans q)|>.trans (decide_eq_true (List.nil_lt_cons ..)).symm
  show R (.ok (.ret (.bool (decide (vs.size<us.size))))) s
  rw [e];exact hR
 |succ f ih=>
  intro i h1 h2 hR
  refine codeAny_builtin entry_eq_loop ?_
  rw [Around.under_plainId plain_eq_loop _]
  refine wpAny_bind (listItems_at ha rfl (wpAny_bind (listItems_at hb rfl ?_)))
  rcases ints_at hi i with⟨_,q⟩|⟨x,t,e1,d1⟩
  ·exact absurd (List.drop_eq_nil_iff.mp q) (by omega)
  replace e1:vs[(i:Int).toNat]? =some (.int x t):=Array.getElem?_toList▸e1
  rw [e1]
  rcases ints_at hj i with⟨e2,d2⟩|⟨y,u,e2,d2⟩
  ·rw [Array.getElem?_toList]at e2
   rw [show us[(i:Int).toNat]? =_ from e2]
   refine wpAny_bind (listItems_at ha rfl (wpAny_bind (listItems_at hb rfl (wpAny_pure ?_))))
   rw [d1,d2]at hR
   have e:decide (vs.size<us.size)=decide (x::l.drop (i+1)<[]):=(decide_eq_false (by have:=List.drop_eq_nil_iff.mp d2;omega)).trans (decide_eq_false (List.not_lt_nil _)).symm
   show R (.ok (.ret (.bool (decide (vs.size<us.size))))) s
   rw [e];exact hR
  ·rw [Array.getElem?_toList]at e2
   rw [show us[(i:Int).toNat]? =_ from e2]
   rw [d1,d2]at hR
   refine wpAny_bind (EqAt.int_int x t y u pw w _ _ ?_)
   cases q:x==y with
   |true=>
    obtain rfl:=eq_of_beq q
    refine wp_ifT rfl (wpAny_pure ⟨plainId_quiet plain_eq_loop _,?_⟩)
    refine ih (i+1) (by omega) ?_ ?_
    ·exact Nat.lt_of_not_le fun q2=>nomatch (List.drop_eq_nil_iff.mpr q2).symm.trans d2
    ·rw [show decide (x::l.drop (i+1)<x::m.drop (i+1))=decide (l.drop (i+1)<m.drop (i+1))from decide_eq_decide.mpr ((List.cons_lt_cons_iff ..).trans ⟨fun h=>h.elim (fun h=>absurd h (Int.lt_irrefl x)) (·.2),fun h=>.inr ⟨rfl,h⟩⟩)]at hR
     exact hR
   |false=>
    refine zG rfl (wpAny_bind (listItems_at ha rfl (wpAny_bind (listItems_at hb rfl ?_))))
    rw [e1,show us[(i:Int).toNat]? =_ from e2]
    refine wpAny_bind (wpAny_lt_int (wpAny_pure ?_))
    rw [show decide (x::l.drop (i+1)<y::m.drop (i+1))=decide (x<y)from decide_eq_decide.mpr ((List.cons_lt_cons_iff ..).trans ⟨fun h=>h.elim id fun h=>absurd h.1 (ne_of_beq_false q),.inl⟩)]at hR
    exact hR
theorem IL.lt{Q:Value→Shared→Prop}(h:IL s v l)(h2:IL s u m)(k:Q (.bool (decide (l<m))) s):wpAny (model pw w) A (call (.builtin "list.__lt__") [v,u]) Q E s:=by
 cases h with
 | @mk a vs i _ ha hi=>cases h2 with
  | @mk b us j _ hb hj=>
   refine wpAny_call (codeAny_call_builtin F.slot_list_lt.plain F.entry_list_lt (F.slot_list_lt.check _ _ _ _ _ _ _ _ ⟨_,ha,rfl⟩ (F.args_list_lt_2 _ _) ?_))
   refine wpAny_bind (m:=slotArgs "__lt__" 1 ⟨[.ref a,.ref b],[]⟩) (wpAny_of_eq (a:=(.ref a,[.ref b])) (by rfl) ?_)
   refine wpAny_bind (m:=isInstance _ _) (wpAny_isInstance ⟨_,hb,rfl⟩ AutoSeq1.sub_list_list (zG rfl (zG rfl (wpAny_pure ⟨plainId_quiet plain_eq_loop _,?_⟩))))
   exact lt_from ha hb hi hj _ 0 (Nat.zero_add _).symm (Nat.zero_le _) k
theorem sints_are{y:Y}{l:List Int}:∀{vs:List Value},VRels y (l.map SV.sint) vs→IntsAre vs l:=by
 induction l with
 |nil=>exact fun q=>q.nil_inv▸ .nil
 |cons x l ih=>
  intro vs q
  obtain⟨v,vs,rfl,a,q1⟩:=q.cons_inv
  obtain⟨t,rfl⟩:=a.inv
  exact .cons _ _ (ih q1)
noncomputable def wkL(x:SV):SV:=match x with
 | .vlist xs=>.vlist (xs.map wk1)
 |x=>x
theorem VRels.wk1{y:Y}{xs:List SV}{vs:List Value}(q:VRels y xs vs):VRels y (xs.map Mine.wk1) vs:=by
 induction q with
 |nil=>exact .nil
 |cons a _ ih=>exact .cons a.wk1 ih
theorem wk1_pure{x:SV}(h:x.pure=true):(wk1 x).pure=true:=by
 induction x using SV.casesOn with
 |_=>exact h
theorem VRel.wkL{y:Y}{x:SV}{v:Value}(q:VRel y x v):VRel y (Mine.wkL x) v:=by
 induction x using SV.casesOn with
 |vlist xs=>
  rcases q.inv with⟨p,⟨g,h⟩⟩
  exact .vlist (xj fun x m=>let⟨u,m,e⟩:=List.mem_map.mp m;let⟨i,e2⟩:=List.mem_iff_getElem?.mp m;e▸wk1_pure (xk p e2)) g h.wk1
 |_=>exact q
theorem VRels.wkL{y:Y}{xs:List SV}{vs:List Value}(q:VRels y xs vs):VRels y (xs.map Mine.wkL) vs:=by
 induction q with
 |nil=>exact .nil
 |cons a _ ih=>exact .cons a.wkL ih
theorem vlS_pure(l:List Int):(vlS l).pure=true:=rfl
variable {z:Z}{B C:List (List Int)}
theorem VRel.il(q:VRel z.y (vlS l) v)(j:Rep ⟨z.G,z.ρ,z.st,s⟩):IL s v l:=by
 rcases q.inv with⟨_,⟨g,h⟩⟩
 exact .mk (j.sub _ _ g) (sints_are h)
theorem VRels.il{vs:List Value}(q:VRels z.y (B.map vlS) vs)(j:Rep ⟨z.G,z.ρ,z.st,s⟩){i:Nat}(hi:i<vs.length):IL s (vs.getD i .none) (B.getD i []):=(q.atM (d:=[]) hi).il j
theorem ne_lists{a b:Addr}{vs us:Array Value}{i j:Nat}{e:Nat→Bool}{Q:Value→Shared→Prop}(ha:s.heap.get? a=some (listOf vs i))(hb:s.heap.get? b=some (listOf us j))(hu:A.units<cLine)(he:∀j (h1:j<vs.size) (h2:j<us.size),EqAt A.in1 s vs[j] us[j] (e j))(h:Q (.bool (!(vs.size==us.size&&(List.range vs.size).all e))) s):wpAny (model pw w) A (compareOp .NotEq (.ref a) (.ref b)) Q E s:=by
 cases hs:vs.size==us.size with
 |true=>
  rw [hs]at h
  exact richCompare_meets_room (op:= .NotEq) ⟨_,ha,rfl⟩ ⟨_,hb,rfl⟩ F.slot_list_ne F.entry_list_ne (F.args_list_ne_2 _ _) (list_neAt a b vs us i j none none #[] #[] (eq_of_beq hs) e) ⟨ha,hb,he,show Value.bool _≠Value.notImplemented∧Q (.bool _) s from⟨(fun x=>nomatch x),h⟩⟩ hu
 |false=>
  rw [hs]at h
  exact richCompare_meets_room (op:= .NotEq) ⟨_,ha,rfl⟩ ⟨_,hb,rfl⟩ F.slot_list_ne F.entry_list_ne (F.args_list_ne_2 _ _) (list_ne_lengthsAt a b vs us i j none none #[] #[] (congrArg (!·) hs)) ⟨ha,hb,show Value.bool _≠Value.notImplemented∧Q (.bool _) s from⟨(fun x=>nomatch x),h⟩⟩ hu
noncomputable def cmpLL:CmpOp→SV→SV→St→Tr:=fun op x y st=>(zZ st x).bind fun xs=>(zZ st y).bind fun ys=>match op with
 | .NotIn=>some fun K=>∃(a:List Int) (B:List (List Int)),(xs.map wk1=a.map SV.sint∧ys.map wkL=B.map vlS)∧K (.tf true (!B.elem a)) st
 | .NotEq=>some fun K=>∃B C:List (List Int),(xs.map wkL=B.map vlS∧ys.map wkL=C.map vlS)∧K (.tf true (B !=C)) st
 |_=>none
theorem ord_lists(key:Nat→List Int):Ord fun i j=>decide (key i<key j)where
 asym:=fun i j h=>decide_eq_false (List.lt_asymm (of_decide_eq_true h))
 tr:=fun i j k h1 h2=>decide_eq_false (List.not_lt.mpr (List.le_trans (List.not_lt.mp (of_decide_eq_false h1)) (List.not_lt.mp (of_decide_eq_false h2))))
theorem room64(ha:AOk (d+5) A):A.in1.units+64<cLine∧A.units<cLine:=⟨Nat.lt_of_le_of_lt (show A.in1.units+64≤A.units+16*(d+5) by show A.units+1+64≤_;omega) ha.2.2,Nat.lt_of_le_of_lt (Nat.le_add_right _ _) ha.2.2⟩
theorem cmpLL_ok:OpOk w (d+5) (h2 x5 cmpLL):=zH yP fun op x y t K z v u e k q q2 A E ha ok=>by
 obtain⟨xs,e1,e⟩:=zz e
 obtain⟨ys,e2,e⟩:=zz e
 have r:=ok.rep
 obtain⟨hu1,hu2⟩:=room64 ha
 rcases zY e1 r q with @⟨a,vs,i,ho,hv⟩
 rcases zY e2 r q2 with @⟨b,us,j,hp,hw⟩
 induction op using CmpOp.casesOn with
 |NotIn=>
  cases e
  obtain⟨l,B,⟨h1,h2⟩,k⟩:=k
  have hv:=h1▸hv.wk1
  have hw:=h2▸hw.wkL
  have hl:IL z.s (.ref a) l:= .mk ho (sints_are hv)
  classical
  refine notIn_listAt (fun y=>decide (IL z.s y l)) (isL hp) (fun y m=> ?_) ?_
  ·obtain⟨i,hi,rfl⟩:=mem_at (Array.mem_toList_iff.mpr m)
   have hi:i<us.toList.length:=hi
   have x:=hw.il (s:=z.s) r hi
   have:=x.eq hl hu1
   rwa [show decide (IL z.s (us.toList.getD i .none) l)=decide (B.getD i []=l)from decide_eq_decide.mpr ⟨fun h=>x.uniq h,fun h=>h▸x⟩]
  ·have e:us.toList.toArray.any (fun y=>decide (IL z.s y l))=B.elem l:=by
    have hl2:=hw.length
    rw [List.length_map]at hl2
    refine Bool.eq_iff_iff.mpr ⟨fun h=> ?_,fun h=> ?_⟩
    ·obtain⟨i,hi,h⟩:=Array.any_eq_true.mp h
     have hi:i<us.toList.length:=hi
     have x:=hw.il (s:=z.s) r hi
     have h:=of_decide_eq_true h
     rw [show us.toList.toArray[i]=us.toList.getD i .none from Option.some.inj ((List.getElem?_eq_getElem hi).symm.trans (zN hi))]at h
     rw [←x.uniq h]
     exact List.elem_iff.mpr (List.mem_of_getElem? (zN (hl2.symm▸hi)))
    ·obtain⟨i,hi⟩:=List.mem_iff_getElem?.mp (List.elem_iff.mp h)
     have hb:i<B.length:=(List.getElem?_eq_some_iff.mp hi).1
     have hi2:i<us.toList.length:=hl2▸hb
     have x:=hw.il (s:=z.s) r hi2
     refine Array.any_eq_true.mpr ⟨i,hi2,decide_eq_true ?_⟩
     rw [show us.toList.toArray[i]=us.toList.getD i .none from Option.some.inj ((List.getElem?_eq_getElem hi2).symm.trans (zN hi2)),show l=B.getD i []from Option.some.inj (hi.symm.trans (zN hb))]
     exact x
   rw [e]
   exact ok.rep.end .tf k
 |NotEq=>
  cases e
  obtain⟨B,C,⟨h1,h2⟩,k⟩:=k
  have hv:=h1▸hv.wkL
  have hw:=h2▸hw.wkL
  have l1:vs.size=B.length:=hv.length.symm.trans (List.length_map ..)
  have l2:us.size=C.length:=hw.length.symm.trans (List.length_map ..)
  have at':∀{us:Array Value} {j:Nat} (h:j<us.size),us[j]=us.toList.getD j .none:=fun{us j} h=>Option.some.inj ((List.getElem?_eq_getElem (l:=us.toList) h).symm.trans (zN h))
  refine ne_lists (e:=fun j=>decide (B.getD j []=C.getD j [])) ho hp hu2 (fun j h1 h2=> ?_) ?_
  ·rw [at' h1,at' h2]
   exact(hv.il (s:=z.s) r h1).eq (hw.il (s:=z.s) r h2) hu1
  ·have e:(vs.size==us.size&&(List.range vs.size).all fun j=>decide (B.getD j []=C.getD j []))=(B==C):=by
    rw [l1,l2]
    refine Bool.eq_iff_iff.mpr ⟨fun h=>beq_iff_eq.mpr ?_,fun h=> ?_⟩
    ·obtain⟨h1,h2⟩:=zx h
     have h1:=eq_of_beq h1
     refine List.ext_getElem h1 fun j hj hj'=> ?_
     have:=of_decide_eq_true (List.all_eq_true.mp h2 j (List.mem_range.mpr hj))
     exact Option.some.inj ((List.getElem?_eq_getElem hj).symm.trans ((zN hj).trans (this▸(zN hj').symm.trans (List.getElem?_eq_getElem hj'))))
    ·obtain rfl:=eq_of_beq h
     exact(Bool.and_eq_true _ _).mpr ⟨beq_self_eq_true _,List.all_eq_true.mpr fun _ _=>decide_eq_true rfl⟩
   rw [e]
   exact ok.rep.end .tf k
 |_=>exact(zu rfl e).elim
noncomputable def sortLL(x:SV)(st:St):Tr:=match x with
 | .vlist xs=>some fun K=>∃B:List (List Int),(xs.map wkL=B.map vlS∧B.length<64)∧∀C:List (List Int),C.Perm B→C.Pairwise (· ≤·)→K (.vlist (C.map vlS)) st
 |_=>none
theorem sortLL_ok:BTOk w (d+4) (.builtin "sorted") (b1 sortLL):=yx fun x t K z v e k q A E ha ok=>by
 induction x using SV.casesOn with
 |vlist xs=>
  cases e
  obtain⟨B,⟨h1,h2⟩,k⟩:=k
  have q1:VRel z.y (.vlist (B.map vlS)) v:=by
   rcases q.inv with⟨_,⟨g,hv⟩⟩
   exact .vlist (ze vlS_pure _) g (h1▸hv.wkL)
  have hu:A.in1.in1.units<cLine:=Nat.lt_of_le_of_lt (show A.units+1+1≤A.units+16*(d+4) by omega) ha.2.2
  refine wg (R:=(· ≤·)) (d:=[]) (lt:=fun a b=>decide (a<b)) (fun a b h=>List.not_lt.mp (of_decide_eq_false h)) ok q1 h2 (fun z1 vs b s1 P E' ok1 hz hv ⟨G,j⟩ ho hP=> ?_) k
  have el:B.length=vs.length:=(List.length_map (f:=vlS)).symm.trans hv.length
  have il:∀{G s} i,JS z1 [b] G s→i<vs.length→IL s (vs.getD i .none) (B.getD i []):=fun i j hi=>(j.step.vals hv).il (z:=⟨_,z1.ρ,z1.st,_⟩) j.step.rep hi
  refine lsort_ok (κ:=oneType') (ord_lists _) (.head _) j ho (el▸h2) (fun h2 s1 Q ⟨G1,j1⟩ hQ=>kas_kind (T:= .type "list") h2 (fun v hm=> ?_) (by decide) (by decide) hQ) (fun i j s1 C hi hj ⟨G1,j1⟩ lv kC=> ?_) hP
  ·obtain⟨i,hi,rfl⟩:=mem_at hm
   exact(il i j1 hi).type
  ·have x1:=il i j1 hi
   have x2:=il j j1 hj
   rw [keyLt'_oneType,oneLt'_eq,if_pos rfl]
   refine wpAny_bind (wpAny_cRoomFor hu (wpAny_bind (wpAny_callSpecialIfBound?_slot x1.is F.slot_list_lt (x1.lt x2 (wpAny_truthy_bool (kC s1 ⟨G1,j1⟩ rfl))))))
 |_=>exact(zu rfl e).elim
end
end
noncomputable def powL:Operator→SV→SV→St→Tr:=fun op x y st=>(asN x).bind fun p=>(asN y).bind fun q=>match op with
 | .Pow=>zj ((!p.1&& !q.1) &&(smB p.2&&(decide (0≤q.2) &&decide (q.2≤60)))) (some fun K=>K (.int (p.2^q.2.toNat)) st)
 |_=>none
theorem powL_ok{w:World}{d:Nat}:OpOk w d (h2 x6 powL):=zH yO fun op x y t K z v u e k q q2 A E _ ok=>by
 obtain⟨p,e1,e⟩:=zz e
 obtain⟨r,e2,e⟩:=zz e
 obtain⟨m,rfl⟩:=zL e1 q
 obtain⟨n,rfl⟩:=zL e2 q2
 induction op using Operator.casesOn with
 |Pow=>
  obtain⟨h,e⟩:=zv e
  cases e
  obtain⟨h1,h2⟩:=zx (zx h).2
  obtain⟨h2,h3⟩:=zx h2
  exact pow_int_small (of_decide_eq_true h2) (Int.le_trans (of_decide_eq_true h3) (by decide)) (Nat.lt_trans (smB_lt h1) (by decide)) (ok.rep.endN k)
 |_=>exact(zu rfl e).elim
noncomputable def P39(w:World):Prims:={P38 w with
 op:=yw (h2 x6 powL)<|yw (h2 x5 cmpLL) (P38 w).op
 call:=zp (onB false "len" (b1 lenB))<|zp (onB false "sorted" (b1 (sortS w)))<|zp (onB false "sorted" (b1 (frzP sortLL)))<|zp (onB false "sorted" (b1 sortLL)) (P38 w).call}
theorem P39_ok(w:World)(d:Nat):Sound w (P39 w) (d+28):={P38_ok w d with
 op:=powL_ok.or<|OpOk.or (cmpLL_ok (d:=d+23)) (P38_ok w d).op
 call:=CallOk.or (BTOk.on (ty:=false) lenB_ok)<|CallOk.or (BTOk.on (ty:=false) (sortS_ok (d:=d+26)))<|CallOk.or (BTOk.on (ty:=false) (frzP_ok (sortLL_ok (d:=d+24))))<|CallOk.or (BTOk.on (ty:=false) (sortLL_ok (d:=d+24))) (P38_ok w d).call}
noncomputable abbrev mkF:Expr×Expr×List Stmt:=forP (sAt yt 13)
noncomputable def zi(n:Nat)(l:List Int):List Nat:=(List.range n).map fun i=>(l.filter fun c=>Nat.beq (c.toNat/(5-n)) i).length
noncomputable def lwKq:Kp:={lwKp with pv:=["pick","seats","way","profile"]}
noncomputable abbrev lwJ(p k wy:SV)(n:Nat)(V:List Int)(P:SV)(m:Nat)(J:St→Prop)(D L:List SV):Prop:=(zt D=true∧zt L=true∧True)∧(p.pure=true∧k.pure=true∧wy.pure=true∧P.pure=true∧True)∧J (lwMi 19 p k wy n V P (some (.int (n-1:Nat))) (some (.int m)) (some (comL (zR m))) D L)
noncomputable def mkR(p:SV)(k:Int)(wy:SV)(n:Nat)(V:List Int)(P:SV)(D L:List SV)(J:St→Prop)(m:Nat):Prop:=
 ((((zR m).length:Int)==k)=true→∃q V',((q∈lt2∧V'.length=2∨q∈lt3∧V'.length=3)∧q.1=725∧[p,vlS V,vlN (zi n (zR m))]=[.int q.2.1,vlS V',vlN q.2.2]∧([]:List (Str×SV))=[])∧
  ((ltB (zX q.2.1 V' q.2.2)=true→D.length≤1000000∧∃(a:List Int) (B:List (List Int)),(((zi n (zR m)).map fun n:Nat=>SV.int n).map wk1=a.map SV.sint∧L.map wkL=B.map vlS)∧
   (((!B.elem a)=true→L.length≤1000000∧lwJ p (.sint k) wy n V P m J (D++[comL (zR m)]) (L++[vlN (zi n (zR m))]))∧((!B.elem a)=false→lwJ p (.sint k) wy n V P m J (D++[comL (zR m)]) L)))∧
  (ltB (zX q.2.1 V' q.2.2)=false→lwJ p (.sint k) wy n V P m J D L)))∧
 ((((zR m).length:Int)==k)=false→lwJ p (.sint k) wy n V P m J D L)
noncomputable abbrev mkV(w:World)(K:KF)(J:St→Prop)(st:St)(m:Nat):Prop:=vc w (P39 w) 60 (.A mkF.1 (.int m) yp st fun st1=>vc w (P39 w) 60 (.Ss mkF.2.2 yp st1 (yZ K (zK 9 19 lwKq J))))
theorem mk_2(w:World)(K:KF)(J:St→Prop)(p wy P:SV)(k a b:Int)(c7 c8:Option SV)(D L:List SV):(List.range 64).map (mkV w K J (lwMi 19 p (.sint k) wy 2 [a,b] P (some (.int 1)) c7 c8 D L))=(List.range 64).map (mkR p k wy 2 [a,b] P D L J):=by kernel_rfl
theorem mk_3(w:World)(K:KF)(J:St→Prop)(p wy P:SV)(k a b c:Int)(c7 c8:Option SV)(D L:List SV):(List.range 64).map (mkV w K J (lwMi 19 p (.sint k) wy 3 [a,b,c] P (some (.int 2)) c7 c8 D L))=(List.range 64).map (mkR p k wy 3 [a,b,c] P D L J):=by kernel_rfl
noncomputable abbrev yC(n:Nat)(l:List Int):List Int:=(zi n l).map fun i:Nat=>(i:Int)
noncomputable def yQ(p n:Nat)(k:Int)(V:List Int)(x:List (List Int)×List (List Int))(m:Nat):List (List Int)×List (List Int):=match((zR m).length:Int)==k with
 |true=>(match ltB (zX p V (zi n (zR m)))with
  |true=>(x.1++[zR m],match x.2.elem (yC n (zR m))with
   |true=>x.2
   |false=>x.2++[yC n (zR m)])
  |false=>x)
 |false=>x
noncomputable def mkS(p n:Nat)(k:Int)(V:List Int)(m:Nat):List (List Int)×List (List Int):=(List.range m).foldl (yQ p n k V) ([],[])
theorem mkS_succ{p n:Nat}{k:Int}{V:List Int}(m:Nat):mkS p n k V (m+1)=yQ p n k V (mkS p n k V m) m:=by
 unfold mkS
 rw [List.range_succ,List.foldl_append];rfl
theorem mkStep_len{p n:Nat}{k:Int}{V:List Int}{x}{m j:Nat}(h:x.1.length≤j∧x.2.length≤j):(yQ p n k V x m).1.length≤j+1∧(yQ p n k V x m).2.length≤j+1:=by
 have h1:x.1.length≤j+1∧x.2.length≤j+1:=⟨Nat.le_succ_of_le h.1,Nat.le_succ_of_le h.2⟩
 unfold yQ
 cases ((zR m).length:Int)==k with
 |false=>exact h1
 |true=>
  cases ltB (zX p V (zi n (zR m)))with
  |false=>exact h1
  |true=>
   refine⟨Nat.le_trans (Nat.le_of_eq (List.length_append ..)) (Nat.succ_le_succ h.1),?_⟩
   show(match x.2.elem (yC n (zR m))with|true=>x.2|false=>x.2++[yC n (zR m)]).length≤j+1
   cases x.2.elem (yC n (zR m))with
   |true=>exact h1.2
   |false=>exact Nat.le_trans (Nat.le_of_eq (List.length_append ..)) (Nat.succ_le_succ h.2)
theorem mkS_len{p n:Nat}{k:Int}{V:List Int}(m:Nat):(mkS p n k V m).1.length≤m∧(mkS p n k V m).2.length≤m:=by
 induction m with
 |zero=>exact⟨Nat.le_refl _,Nat.le_refl _⟩
 |succ m ih=>rw [mkS_succ];exact mkStep_len ih
noncomputable abbrev lwTr(x:Nat×Nat×Nat×Str×Nat):Prop:=x∈lwT
theorem mk_fin:∀x∈lwT,(x.2.1=2∨x.2.1=3)∧∀m∈List.range 64,(((zR m).length:Int)==(x.2.2.1:Int))=true→(725,x.1,zi x.2.1 (zR m))∈(match Nat.beq x.2.1 2 with|true=>lt2|false=>lt3):=by decide+kernel
theorem wkL_com(L:List (List Int)):(L.map comL).map wkL=L.map vlS:=by
 rw [List.map_map]
 refine List.map_congr_left fun l _=>congrArg SV.vlist ?_
 rw [List.map_map];rfl
theorem vlN_com(s:List Nat):vlN s=comL (s.map fun i:Nat=>(i:Int)):=congrArg SV.vlist (List.map_map ..).symm
section
variable {w:World}{x:Nat×Nat×Nat×Str×Nat}{V:List Int}{wy P:SV}{D L:List (List Int)}{J:St→Prop}{m:Nat}
theorem mk_turn(hx:x∈lwT)(hV:V.length=x.2.1)(hw:wy.pure=true)(hP:P.pure=true)(hm:m<64)(hD:D.length≤64)(hL:L.length≤64)
  (hJ:∀c7 c8,J (lwMi 19 (.int x.1) (.sint x.2.2.1) wy x.2.1 V P (some (.int (x.2.1-1:Nat))) c7 c8 ((yQ x.1 x.2.1 x.2.2.1 V (D,L) m).1.map comL) ((yQ x.1 x.2.1 x.2.2.1 V (D,L) m).2.map comL))):mkR (.int x.1) x.2.2.1 wy x.2.1 V P (D.map comL) (L.map comL) J m:=by
 obtain⟨h23,hf⟩:=mk_fin x hx
 have le:∀{D:List (List Int)},D.length≤64→(D.map comL).length≤1000000:=fun h=>by rw [List.length_map];exact Nat.le_trans h (by decide)
 have en:∀D' L':List (List Int),yQ x.1 x.2.1 x.2.2.1 V (D,L) m=(D',L')→lwJ (.int x.1) (.sint x.2.2.1) wy x.2.1 V P m J (D'.map comL) (L'.map comL):=fun D' L' e=>⟨⟨zC,zC,trivial⟩,⟨rfl,rfl,hw,hP,trivial⟩,by
  have:=hJ (some (.int m)) (some (comL (zR m)))
  rw [e]at this
  exact this⟩
 have app:∀(D:List (List Int)) (l:List Int),D.map comL++[comL l]=(D++[l]).map comL:=fun D l=>(List.map_append (f:=comL) (l₁:=D) (l₂:=[l])).symm
 refine⟨fun e=>⟨(725,x.1,zi x.2.1 (zR m)),V,⟨?_,rfl,rfl,rfl⟩,fun e2=>⟨le hD,yC x.2.1 (zR m),L,⟨?_,wkL_com L⟩,fun e3=>⟨le hL,?_⟩,fun e3=> ?_⟩,fun e2=> ?_⟩,fun e=> ?_⟩
 ·have:=hf m (List.mem_range.mpr hm) e
  rcases h23 with h|h
  ·rw [h]at this⊢;exact .inl ⟨this,h▸hV⟩
  ·rw [h]at this⊢;exact .inr ⟨this,h▸hV⟩
 ·rw [List.map_map,List.map_map];rfl
 ·rw [vlN_com,app,app]
  refine en _ _ ?_
  unfold yQ
  rw [e]
  show(match ltB (zX x.1 V (zi x.2.1 (zR m)))with|true=>_|false=>_)=_
  rw [show ltB (zX x.1 V (zi x.2.1 (zR m)))=true from e2]
  show(D++[zR m],match L.elem (yC x.2.1 (zR m))with|true=>L|false=>L++[yC x.2.1 (zR m)])=_
  rw [show L.elem (yC x.2.1 (zR m))=false from(Bool.not_eq_true' _).mp e3]
 ·rw [app]
  refine en _ _ ?_
  unfold yQ
  rw [e]
  show(match ltB (zX x.1 V (zi x.2.1 (zR m)))with|true=>_|false=>_)=_
  rw [show ltB (zX x.1 V (zi x.2.1 (zR m)))=true from e2]
  show(D++[zR m],match L.elem (yC x.2.1 (zR m))with|true=>L|false=>L++[yC x.2.1 (zR m)])=_
  rw [show L.elem (yC x.2.1 (zR m))=true from(Bool.not_eq_false' _).mp e3]
 ·refine en _ _ ?_
  unfold yQ
  rw [e]
  show(match ltB (zX x.1 V (zi x.2.1 (zR m)))with|true=>_|false=>_)=_
  rw [show ltB (zX x.1 V (zi x.2.1 (zR m)))=false from e2]
 ·refine en _ _ ?_
  unfold yQ
  rw [e]
end
noncomputable def mkT(w:World):FlT:=fun t y b fr st K=>(((t,b)=(mkF.1,mkF.2.2)∧fr=yp)∧y= .rng 0 64)∧∃x V wy P,(st=lwM (.int ((x:Nat×Nat×Nat×Str×Nat).1)) (.sint x.2.2.1) wy x.2.1 V P (some (.int (x.2.1-1:Nat))) none none [] []∧x∈lwT∧V.length=x.2.1∧wy.pure=true∧P.pure=true)∧
 ∀c7 c8,K .next (lwMi 19 (.int x.1) (.sint x.2.2.1) wy x.2.1 V P (some (.int (x.2.1-1:Nat))) c7 c8 ((mkS x.1 x.2.1 x.2.2.1 V 64).1.map comL) ((mkS x.1 x.2.1 x.2.2.1 V 64).2.map comL))
theorem mk_an(J:St→Prop)(p k wy P:SV)(n:Nat)(V:List Int)(c6:Int):zK 9 19 lwKq J (lwM p k wy n V P (some (.int c6)) none none [] [])=((zt []=true∧zt []=true∧True)∧(p.pure=true∧k.pure=true∧wy.pure=true∧P.pure=true∧True)∧J (lwMi 19 p k wy n V P (some (.int c6)) none none [] [])):=by kernel_rfl
theorem rng_item{n:Nat}(k:Nat)(st:St):zO (.rng 0 n) k st=some ((List.range n).map fun i:Nat=>SV.int i)[k]? :=by
 show some (match decide (0+(k:Int)<n)with|true=>some (SV.int (0+k))|false=>none)=_
 rw [Int.zero_add,List.getElem?_map]
 cases h:decide ((k:Int)<n)with
 |true=>
  have:k<n:=Int.ofNat_lt.mp (of_decide_eq_true h)
  rw [List.getElem?_range this];rfl
 |false=>
  have:n≤k:=Int.ofNat_le.mp (Int.not_lt.mp (of_decide_eq_false h))
  rw [List.getElem?_eq_none (Nat.le_trans (Nat.le_of_eq List.length_range) this)];rfl
theorem mkT_ok(w:World)(d:Nat):FlOk w (d+28) (mkT w):=fun t y b fr K z env v A E h ev q ha ok=>by
 obtain⟨⟨⟨e,rfl⟩,rfl⟩,⟨p,n,k,wy',q'⟩,V,wy,P,⟨hst,hx,hV,hw,hP⟩,kk⟩:=h
 obtain rfl:t=mkF.1:=congrArg Prod.fst e
 obtain rfl:b=mkF.2.2:=congrArg Prod.snd e
 let I:Nat→St→Prop:=fun m st=>m≤64∧∃c7 c8,st=lwMi 19 (.int p) (.sint k) wy n V P (some (.int (n-1:Nat))) c7 c8 ((mkS p n k V m).1.map comL) ((mkS p n k V m).2.map comL)
 have F:ForP w (P39 w) 60 mkF.1 mkF.2.2 yp 9 19 lwKq ((List.range 64).map fun i:Nat=>SV.int i) K I:=by
  refine⟨fun m u st e h=> ?_,fun m st e h=> ?_⟩
  ·obtain⟨_,c7,c8,rfl⟩:=h
   rw [List.getElem?_map]at e
   obtain⟨m',e1,rfl⟩:=Option.map_eq_some_iff.mp e
   obtain⟨hm,e1⟩:=List.getElem?_eq_some_iff.mp e1
   obtain rfl:m=m':=(List.getElem_range hm).symm.trans e1
   have hm:m<64:=List.length_range (n:=64)▸hm
   have T:=mk_turn (wy:=wy) (P:=P) (J:=I (m+1)) hx hV hw hP hm (Nat.le_trans (mkS_len (p:=p) (n:=n) (k:=k) (V:=V) m).1 (Nat.le_of_lt hm)) (Nat.le_trans (mkS_len (p:=p) (n:=n) (k:=k) (V:=V) m).2 (Nat.le_of_lt hm)) fun c7 c8=>⟨hm,c7,c8,by rw [mkS_succ]⟩
   rcases(mk_fin _ hx).1 with rfl|rfl
   ·obtain⟨a,b,rfl⟩:=len2 hV
    exact(zl (mk_2 w K (I (m+1)) (.int p) wy P k a b c7 c8 _ _) (List.mem_range.mpr hm)).mpr T
   ·obtain⟨a,b,c,rfl⟩:=len3 hV
    exact(zl (mk_3 w K (I (m+1)) (.int p) wy P k a b c c7 c8 _ _) (List.mem_range.mpr hm)).mpr T
  ·obtain⟨hm,c7,c8,rfl⟩:=h
   obtain rfl:m=64:=Nat.le_antisymm hm (by
    have:=List.getElem?_eq_none_iff.mp e
    rwa [List.length_map,List.length_range]at this)
   exact kk c7 c8
 have e2:mkF.1= .Name (zT mkF.1).1 (zT mkF.1).2:=by kernel_rfl
 rw [e2]at F⊢
 obtain⟨G,ρ,st,s⟩:=z
 obtain rfl:st=_:=hst
 exact yA (N:=60) (b0:=9) (kp:=lwKq) (P39_ok w d) (x:= .rng 0 64) rfl ⟨_,I,rng_item,(mk_an ..).mpr ⟨⟨rfl,rfl,trivial⟩,⟨rfl,rfl,hw,hP,trivial⟩,Nat.zero_le _,none,none,rfl⟩,F⟩ q ev ha ok
noncomputable def hd1(x:SV):SV:=match x with
 | .num _ i=>.num false i
 |x=>x
theorem VRel.hd1{y:Y}{x:SV}{v:Value}(q:VRel y x v):VRel y (Mine.hd1 x) v:=by
 induction x using SV.casesOn with
 |num s i=>
  obtain⟨t,rfl⟩:=q.inv
  exact .num
 |_=>exact q
noncomputable def hdB(T:BT):BT:=fun xs ks st=>T (xs.map hd1) ks st
theorem BTOk.hd{w:World}{d:Nat}{f:Value}{T:BT}(h:BTOk w d f T):BTOk w d f (hdB T):=fun xs ks t K z vs kvs e k q qk=>
 h _ ks t K z vs kvs e k (by
  clear e
  induction q with
  |nil=>exact .nil
  |cons a _ ih=>exact .cons a.hd1 ih) qk
noncomputable def P40(w:World):Prims:={(P39 w).fl 824 (mkT w)with
 call:=zp (onA 465 (hdB (cpH w 465)))<|zp (onA 473 (hdB (cpH w 473)))<|zp (onA 486 (hdB (caH w 486))) (P39 w).call}
theorem P40_ok(w:World)(d:Nat):Sound w (P40 w) (d+28):=
 have S:=(P39_ok w d).fl (mkT_ok w d)
 {S with call:=CallOk.or (BTOk.at (cpH_ok w (d+3) 465).hd)<|CallOk.or (BTOk.at (cpH_ok w (d+3) 473).hd)<|CallOk.or (BTOk.at (caH_ok w (d+4) 486).hd) S.call}
noncomputable def lwTd(ns:List (Str×SV))(p k wy:SV)(n:Nat)(V:List Int)(P:SV)(c6:Int)(c7 c8:Option SV)(D L:List SV):St:=⟨[(4,.ns "part" (([("pick",p),("parties",.int n),("seats",k),("votes",vlS V),("way",wy),("profile",P),("due",.ref 19),("divisions",.ref 20)]:List (Str×SV))++ns)),(5,.cell (some (.int (5-n:Nat)))),(6,.cell (some (.int c6))),(7,.cell c7),(8,.cell c8),(19,.list D),(20,.list L)],26⟩
noncomputable def lwTe(j:Nat)(ns:List (Str×SV))(p k wy:SV)(n:Nat)(V:List Int)(P:SV)(c6:Int)(c7 c8:Option SV)(L:List SV):St:=⟨(lwTd ns p k wy n V P c6 c7 c8 [] L).own.filter fun q=> !Nat.beq q.1 19,j⟩
theorem td_f(w:World)(J:St→Prop)(k wy P:SV)(n:Nat)(V:List Int)(c6:Int)(c7 c8:Option SV)(D L:List SV):[0,1,2].map (fun p:Nat=>vc w (P40 w) 60 (.Ss [sAt yt 14] yp (lwMi 19 (.int p) k wy n V P (some (.int c6)) c7 c8 D L) (nxtK J)))=[0,1,2].map fun p:Nat=>zg (match p with|0=>hdB (cpH w 465) [P,k] [("algorithm",wy)] st0|1=>hdB (cpH w 473) [P,k] [("algorithm",wy)] st0|_=>hdB (caH w 486) [P,k] [] st0) fun t=>t fun v _=>J (lwTd [("told",v)] (.int p) k wy n V P c6 c7 c8 D L):=by kernel_rfl
noncomputable def cmpP(e:Expr):Expr×Expr:=match e with
 | .Compare l _ rs _=>(l,hdE rs)
 |_=>(e00,e00)
noncomputable def argE(e:Expr):Expr:=match e with
 | .Call _ es _ _=>hdE es
 |_=>e00
noncomputable abbrev l5P:Expr×Expr:=cmpP (ifT (sAt yt 15))
noncomputable abbrev l5C:Expr×List Comprehension×Scope:=lcP (argE l5P.1)
noncomputable def l5G:FrS:=⟨27,[],relabel l5C.2.2 (envOf yp.scope),yp.code⟩
noncomputable def l5S(st:St)(l:List (Str×SV))(L:List SV):St:=⟨(27,.ns "dict" l)::(26,.list L)::st.own,28⟩
noncomputable def l5E(w:World)(J:St→Prop):KS:=fun st4=>zI (nsL st4 27).isSome (madeL true (fun v st1=>ap ((P40 w).call (.top (.builtin "sorted")) [v] [] st1) fun a st1=>vc w (P40 w) 57 (.E l5P.2 yp st1 fun b st2=>ap ((P40 w).op (.cmp .NotEq) [a,b] st2) fun c st3=>truK c st3 fun s c st1=>way s c False (J st1))) 26 (st4.drop 27))
theorem l5_f(w:World)(J:St→Prop)(p k wy P:SV)(n:Nat)(V:List Int)(c6:Int)(c7 c8:Option SV)(D L zs:List SV):vc w (P40 w) 60 (.Ss [sAt yt 15] yp (lwTd [("told",.vlist zs)] p k wy n V P c6 c7 c8 D L) (nxtK J))=vc w (P40 w) 54 (.LC l5C.1 l5C.2.1 0 (.vlist zs) 0 26 l5G (l5S (lwTd [("told",.vlist zs)] p k wy n V P c6 c7 c8 D L) [] []) (l5E w J)):=by kernel_rfl
theorem l5_e(w:World)(J:St→Prop)(p k wy P:SV)(n:Nat)(V:List Int)(c6:Int)(c7 c8:Option SV)(D L zs X:List SV)(l:List (Str×SV)):l5E w J (l5S (lwTd [("told",.vlist zs)] p k wy n V P c6 c7 c8 D L) l X)=zI (zt X) (∃B:List (List Int),(X.map wkL=B.map vlS∧B.length<64)∧∀C:List (List Int),C.Perm B→C.Pairwise (· ≤·)→
 zt D=true∧∃B2:List (List Int),(D.map wkL=B2.map vlS∧B2.length<64)∧∀C2:List (List Int),C2.Perm B2→C2.Pairwise (· ≤·)→∃B' C':List (List Int),((C.map vlS).map wkL=B'.map vlS∧(C2.map vlS).map wkL=C'.map vlS)∧((B' !=C')=true→False)∧((B' !=C')=false→J (lwTe 28 [("told",.vlist zs)] p k wy n V P c6 c7 c8 L))):=by kernel_rfl
theorem l5_t(w:World)(K:KS)(st:St)(led:Bool)(c:List Int)(v zs:SV)(L:List SV)(m k:Nat):[[],[(Str.ofString "committee",v)]].map (fun l=>lcTurn w (P40 w) (vc w (P40 w) (m+20)) l5C.1 l5C.2.1 zs k 26 l5G (l5S st l L) K (.vset led c))=[[],[(Str.ofString "committee",v)]].map fun _=>led=(!zy w)∧∀bs:List Int,bs.Perm c→bs.Pairwise (· ≤·)→zI (Nat.ble L.length sizeLine) (vc w (P40 w) (m+20) (.LC l5C.1 l5C.2.1 0 zs (k+1) 26 l5G (l5S st [("committee",.vset led c)] (L++[vlS bs])) K)):=by kernel_rfl
noncomputable def posU:CmpOp→SV→SV→St→Tr:=fun op x y st=>(asN x).bind fun p=>(asN y).bind fun q=>match op with
 | .Gt=>zj (p.1&&(!q.1&&q.2==0)) (some fun K=>0<p.2∧K (.bool true) st)
 |_=>none
theorem posU_ok{w:World}{d:Nat}:OpOk w d (h2 x5 posU):=zH yP fun op x y t K z v u e k q q2=>by
 obtain⟨p,e1,e⟩:=zz e
 obtain⟨r,e2,e⟩:=zz e
 induction op using CmpOp.casesOn with
 |Gt=>
  obtain⟨h,e⟩:=zv e
  cases e
  have h0:r.2=0:=eq_of_beq (zx (zx h).2).2
  have e4:h2 x5 cmpN (.cmp .Gt) [x,y] z.st=some (fun K:KV=>K (.tf (p.1||r.1) (decide (r.2<p.2))) z.st):=by
   show(asN x).bind (fun p=>(asN y).bind fun q=>_)=_
   rw [e1,e2];rfl
  have h:W w d VRel (fun v st=>v= .tf (p.1||r.1) true∧st=z.st) z (compareOp .Gt v u):=cmpN_ok (.cmp .Gt) [x,y] _ _ z [v,u] e4 ⟨by rw [h0,decide_eq_true k.1],rfl⟩ (.cons q (.cons q2 .nil))
  exact fun A E ha ok=>wm (h A E ha ok) fun v s r=>by
   rcases r with⟨S,q3,k1,k2⟩
   subst k1
   obtain rfl:=q3.inv
   exact .mk S .tf (k2▸k.2)
 |_=>exact(zu rfl e).elim
theorem asN_sints(l:List Int):zJ asN (l.map SV.sint)=some (l.map fun i=>(true,i)):=by
 induction l with
 |nil=>rfl
 |cons i l ih=>
  show(asN (.sint i)).bind (fun b=>(zJ asN (l.map SV.sint)).bind fun r=>some (b::r))=_
  rw [ih];rfl
noncomputable def inU:CmpOp→SV→SV→St→Tr:=fun op x y st=>(asN x).bind fun p=>(zZ st y).bind fun xs=>match op with
 | .In=>zj p.1 (some fun K=>∃l:List Int,xs=l.map SV.sint∧K (.tf true (l.any fun x=>x==p.2)) st)
 |_=>none
theorem inU_ok{w:World}{d:Nat}:OpOk w d (h2 x5 inU):=zH yP fun op x y t K z v u e k q q2=>by
 obtain⟨p,e1,e⟩:=zz e
 obtain⟨xs,e2,e⟩:=zz e
 induction op using CmpOp.casesOn with
 |In=>
  obtain⟨h,e⟩:=zv e
  cases e
  obtain⟨l,rfl,k⟩:=k
  refine cmpInI_ok (.cmp .In) [x,y] (fun K=>K (.tf true (l.any fun x=>x==p.2)) z.st) K z [v,u] ?_ k (.cons q (.cons q2 .nil))
  show(asN x).bind (fun p=>(zZ z.st y).bind fun xs=>(zJ asN xs).bind fun l=>_)=_
  rw [e1,e2]
  show(zJ asN (l.map SV.sint)).bind _=_
  rw [asN_sints,h]
  show some (fun K:KV=>K (.tf (true||_) (sg true ((l.map fun i=>(true,i)).any fun q=>q.2==p.2))) z.st)=_
  rw [List.any_map];rfl
 |_=>exact(zu rfl e).elim
noncomputable def xn(w:World):Prims:={P35 w with op:=yw (h2 x5 posU)<|yw (h2 x5 inU) (P35 w).op}
theorem xP(w:World)(d:Nat):Sound w (xn w) (d+28):={P35_ok w d with op:=posU_ok.or<|inU_ok.or (P35_ok w d).op}
noncomputable def yU:FrS:=⟨4,[("minweight",9),("weights",8),("common",7),("divisors",6),("representatives",5)],(tp 41).2.2,.ref 530⟩
noncomputable def dvH(V:List Int)(k:Nat)(me:Str)(al:Bool):St:=⟨[(9,.cell none),(8,.cell none),(7,.cell none),(6,.cell none),(5,.cell none),(4,.ns "frame" [("votes",vlS V),("seats",.int k),("method",.str me),("tiesallowed",.bool al)])],10⟩
noncomputable def wtF(c:Int)(ds:List Int)(v:Int):List Int:=ds.map fun d=>(v*1*c).fdiv d
noncomputable def condR(m:Int):List Int→List SV→(List SV→Prop)→Prop
 | [],acc,K=>acc.length≤1000∧K acc
 |a::r,acc,K=>acc.length≤1000∧condR m r (acc++condL (decide (m<a)) (.sint a)) K
noncomputable def condP(m:Int):List (List Int)→List Int→List Int→(List Int→Prop)→Prop
 |w::ws,r::rs,acc,K=>dvC.exp=dvC.exp∧condR m w [] fun L=>condP m ws rs (acc++[r+(L.length:Int)]) K
 |_,_,acc,K=>K acc
noncomputable def dvS(i:Nat)(V:List Int)(k:Nat)(al ti:Bool)(rs:List Int)(ws:List SV)(m:Int)(c6 c7:Option SV):St:=⟨[(4,.ns "part" [("votes",vlS V),("seats",.int k),("tiesallowed",.bool al),("ties",.bool ti)]),(5,.cell (some (.ref i))),(6,.cell c6),(7,.cell c7),(8,.cell (some (.vlist ws))),(9,.cell (some (.sint m))),(i,.list (rs.map SV.sint))],i+7⟩
noncomputable def dvKp:Kp:=⟨["votes","seats","tiesallowed","ties"],[],[]⟩
noncomputable def posV(r0:Int)(V:List Int)(R:Prop):Prop:=match r0 with
 |0=>R
 |_=>V.foldr (fun v R=>0<v∧R) R
noncomputable def dvP(V:List Int)(k:Nat)(al:Bool)(r0 c:Int)(ds:List Int)(J:St→Prop):Prop:=posV r0 V<|allN ((V.map (wtF c ds)).flatten.length) fun bs=>bs.Perm (V.map (wtF c ds)).flatten→bs.Pairwise (· ≤·)→condP (bs.getD ((V.map (wtF c ds)).flatten.length-k+V.length*r0.toNat) 0) (V.map (wtF c ds)) (V.map fun _=>r0) [] fun rs=>
 True∧True∧J (dvS 10 V k al false rs (V.map fun v=>vlS (wtF c ds v)) (bs.getD ((V.map (wtF c ds)).flatten.length-k+V.length*r0.toNat) 0) (some (.vlist (ds.map fun d=>.tup [.int d,.int 1]))) (some (.int c)))
noncomputable abbrev dvV(w:World)(J:St→Prop)(V:List Int)(al:Bool)(p:Str×Nat×Int×Int×List Int):Prop:=vc w (xn w) 60 (.Ss (dvB.take 4) yU (dvH V p.2.1 p.1 al) (nxtK (zK 10 10 dvKp J)))
noncomputable def dv2L:List (Str×Nat×Int×Int×List Int):=[("dhondt",1,0,1,[1]),("dhondt",2,0,2,[1,2]),("dhondt",3,0,6,[1,2,3]),("saintelague",1,0,1,[1]),("saintelague",2,0,3,[1,3]),("saintelague",3,0,15,[1,3,5]),("adams",3,1,6,[1,2,3]),("adams",4,1,24,[1,2,3,4])]
noncomputable def dv3L:List (Str×Nat×Int×Int×List Int):=[("dhondt",1,0,1,[1]),("dhondt",2,0,2,[1,2]),("saintelague",1,0,1,[1]),("saintelague",2,0,3,[1,3])]
theorem dv_2(w:World)(J:St→Prop)(al:Bool)(a b:Int):dv2L.map (dvV w J [a,b] al)=dv2L.map fun p=>dvP [a,b] p.2.1 al p.2.2.1 p.2.2.2.1 p.2.2.2.2 J:=by kernel_rfl
theorem dv_3(w:World)(J:St→Prop)(al:Bool)(a b c:Int):dv3L.map (dvV w J [a,b,c] al)=dv3L.map fun p=>dvP [a,b,c] p.2.1 al p.2.2.1 p.2.2.2.1 p.2.2.2.2 J:=by kernel_rfl
theorem dv_a(w:World)(K:FlowS→Prop)(al:Bool)(a b:Int):vc w (xn w) 60 (.Ss dvB yU (dvH [a,b] 2 "adams" al) fun f _=>K f)=posV 1 [a,b] (K (.ret (.vlist [.int 1,.int 1]))):=by kernel_rfl
noncomputable abbrev dvQ:Expr×Expr×List Stmt:=forP (match ifB (sAt dvB 4)with|s::_=>s| []=>.Pass p0)
noncomputable def dvHit(w:List Int)(m:Int)(R1 R0:Prop):Prop:=∃l:List Int,w.map SV.sint=l.map SV.sint∧((l.any fun x=>x==m)=true→R1)∧((l.any fun x=>x==m)=false→R0)
noncomputable def dvJ(V:List Int)(k:Nat)(al:Bool)(ws:List (List Int))(m:Int)(c6 c7:Option SV)(J:St→Prop)(rs:List Int)(ti:Bool):Prop:=True∧True∧J (dvS 17 V k al ti rs (ws.map vlS) m c6 c7)
noncomputable def dvF(i:Nat)(k:Nat)(rs w:List Int)(m:Int)(J:List Int→Prop):Prop:=(decide (rs.sum<k)=true→dvHit w m (J (rs.set i (rs.getD i 0+1))) (J rs))∧(decide (rs.sum<k)=false→J rs)
noncomputable def dvT(i:Nat)(k:Nat)(al ti:Bool)(rs w:List Int)(m:Int)(J:List Int→Bool→Prop):Prop:=((rs.sum==(k:Int))=true→dvHit w m (match ti with
  |true=>dvF i k rs w m (J · true)
  |false=>(match al with
   |true=>dvF i k rs w m (J · true)
   |false=>False)) (dvF i k rs w m (J · ti)))∧((rs.sum==(k:Int))=false→dvF i k rs w m (J · ti))
noncomputable def dvSi(i:Nat)(V:List Int)(k:Nat)(al ti:Bool)(rs:List Int)(ws:List SV)(m:Int)(c6 c7:Option SV):St:=⟨(4,.ns "part" [("votes",vlS V),("seats",.int k),("tiesallowed",.bool al),("ties",.bool ti),("i",.int i)])::(dvS 17 V k al ti rs ws m c6 c7).own.tail,24⟩
theorem dA_f(w:World)(K:KS)(i:Nat)(V:List Int)(k:Nat)(al ti:Bool)(rs:List Int)(ws:List SV)(m:Int)(c6 c7:Option SV):vc w (xn w) 60 (.A dvQ.1 (.int i) yU (dvS 17 V k al ti rs ws m c6 c7) K)=K (dvSi i V k al ti rs ws m c6 c7):=by kernel_rfl
noncomputable abbrev dvW(w:World)(K:KF)(J:St→Prop)(st:St):Prop:=vc w (xn w) 60 (.Ss dvQ.2.2 yU st (yZ K (zK 10 17 dvKp J)))
noncomputable def bb4:List (Bool×Bool):=[(true,true),(true,false),(false,true),(false,false)]
noncomputable def iL(l:List Nat):List (Nat×Bool×Bool):=l.flatMap fun i=>bb4.map fun x=>(i,x)
theorem dt_2(w:World)(K:KF)(J:St→Prop)(V:List Int)(k:Nat)(a b m:Int)(u v:List Int)(D:List SV)(c:Int):(iL [0,1]).map (fun x=>dvW w K J (dvSi x.1 V k x.2.1 x.2.2 [a,b] [vlS u,vlS v] m (some (.vlist D)) (some (.int c))))=(iL [0,1]).map fun x=>dvT x.1 k x.2.1 x.2.2 [a,b] ([u,v].getD x.1 []) m (dvJ V k x.2.1 [u,v] m (some (.vlist D)) (some (.int c)) J):=by kernel_rfl
theorem dt_3(w:World)(K:KF)(J:St→Prop)(V:List Int)(k:Nat)(a b e m:Int)(u v x:List Int)(D:List SV)(c:Int):(iL [0,1,2]).map (fun y=>dvW w K J (dvSi y.1 V k y.2.1 y.2.2 [a,b,e] [vlS u,vlS v,vlS x] m (some (.vlist D)) (some (.int c))))=(iL [0,1,2]).map fun y=>dvT y.1 k y.2.1 y.2.2 [a,b,e] ([u,v,x].getD y.1 []) m (dvJ V k y.2.1 [u,v,x] m (some (.vlist D)) (some (.int c)) J):=by kernel_rfl
noncomputable def ifP(s:Stmt):Expr×List Stmt×Pos:=match s with
 | .If t b _ p=>(t,b,p)
 |_=>(e00,[],p0)
noncomputable def hdS(l:List Stmt):Stmt:=match l with
 |s::_=>s
 | []=>.Pass p0
noncomputable abbrev dvX1:Expr×List Stmt×Pos:=ifP (hdS dvQ.2.2)
noncomputable abbrev dvX2:Expr×List Stmt×Pos:=ifP (hdS dvX1.2.1)
noncomputable abbrev dvX3:Expr×List Stmt×Pos:=ifP (hdS dvX2.2.1)
noncomputable abbrev dvX4:Expr×List Stmt×Pos:=ifP (sAt dvB 4)
noncomputable def dvH1(k:Nat)(rs w:List Int)(m:Int)(K:Bool→Prop):Prop:=((rs.sum==(k:Int))=true→∃l:List Int,w.map SV.sint=l.map SV.sint∧((l.any fun x=>x==m)=true→K true)∧((l.any fun x=>x==m)=false→K false))∧((rs.sum==(k:Int))=false→K false)
theorem dx_2(w:World)(K:KT)(V:List Int)(k:Nat)(a b m:Int)(u v:List Int)(c6 c7:Option SV):[0,1].map (fun i:Nat=>vc w (xn w) 60 (.T dvX1.1 yU (dvSi i V k false false [a,b] [vlS u,vlS v] m c6 c7) K))=[0,1].map fun i:Nat=>dvH1 k [a,b] ([u,v].getD i []) m fun x=>K false x (dvSi i V k false false [a,b] [vlS u,vlS v] m c6 c7):=by kernel_rfl
theorem dx_3(w:World)(K:KT)(V:List Int)(k:Nat)(a b e m:Int)(u v x:List Int)(c6 c7:Option SV):[0,1,2].map (fun i:Nat=>vc w (xn w) 60 (.T dvX1.1 yU (dvSi i V k false false [a,b,e] [vlS u,vlS v,vlS x] m c6 c7) K))=[0,1,2].map fun i:Nat=>dvH1 k [a,b,e] ([u,v,x].getD i []) m fun y=>K false y (dvSi i V k false false [a,b,e] [vlS u,vlS v,vlS x] m c6 c7):=by kernel_rfl
theorem dx_t(w:World)(K:KT)(i:Nat)(V:List Int)(k:Nat)(rs:List Int)(ws:List SV)(m:Int)(c6 c7:Option SV):[dvX2.1,dvX3.1].map (fun t=>vc w (xn w) 60 (.T t yU (dvSi i V k false false rs ws m c6 c7) K))=[dvX2.1,dvX3.1].map fun _=>K false true (dvSi i V k false false rs ws m c6 c7):=by kernel_rfl
theorem d4_f(w:World)(K:KT)(V:List Int)(k:Nat)(al:Bool)(a b e m:Int)(ws:List SV)(c6 c7:Option SV):[[a,b],[a,b,e]].map (fun rs:List Int=>vc w (xn w) 60 (.T dvX4.1 yU (dvS 10 V k al false rs ws m c6 c7) K))=[[a,b],[a,b,e]].map fun rs:List Int=>K true (decide (rs.sum<k)) (dvS 10 V k al false rs ws m c6 c7):=by kernel_rfl
theorem d4_r(w:World)(K:KV)(a b c:Int)(k:Nat)(al:Bool)(rs:List Int)(m:Int)(ws:List SV)(c6 c7:Option SV):[[a,b],[a,b,c]].map (fun V:List Int=>vc w (xn w) 60 (.E dvQ.2.1 yU (dvS 10 V k al false rs ws m c6 c7) K))=[[a,b],[a,b,c]].map fun V:List Int=>K (.rng 0 V.length) (dvS 10 V k al false rs ws m c6 c7):=by kernel_rfl
theorem d4_a(J:St→Prop)(V:List Int)(k:Nat)(al:Bool)(a b e m:Int)(ws D:List SV)(c:Int):[[a,b],[a,b,e]].map (fun rs:List Int=>zK 10 17 dvKp J (dvS 10 V k al false rs ws m (some (.vlist D)) (some (.int c))))=[[a,b],[a,b,e]].map fun rs:List Int=>True∧True∧J (dvS 17 V k al false rs ws m (some (.vlist D)) (some (.int c))):=by kernel_rfl
noncomputable def tfL:List (Nat×Bool×Bool):=[10,17].flatMap fun i=> [(i,true,true),(i,true,false),(i,false,false)]
theorem d5_f(w:World)(K:KF)(V:List Int)(k:Nat)(rs:List Int)(m:Int)(ws:List SV)(c6 c7:Option SV):tfL.map (fun x=>vc w (xn w) 60 (.Ss (dvB.drop 5) yU (dvS x.1 V k x.2.1 x.2.2 rs ws m c6 c7) K))=tfL.map fun x=>K (.ret (.ref x.1)) (dvS x.1 V k x.2.1 x.2.2 rs ws m c6 c7):=by kernel_rfl
noncomputable def conP(e:Expr):Str×Nat×Pos:=match e with
 | .Constant c k p=>(match c with
  | .str s=>s
  |_=>"",k,p)
 |_=>("",0,p0)
noncomputable def rzE(s:Stmt):Expr×Pos:=match s with
 | .Raise (some e) _ p=>(e,p)
 |_=>(e00,p0)
noncomputable def calP(e:Expr):Str×Pos×List Expr×Pos:=match e with
 | .Call f es _ p=>((zT f).1,(zT f).2,es,p)
 |_=>("",p0,[],p0)
noncomputable def rzP(s:Stmt):Pos×Str×Nat×Pos×Pos×Pos:=((calP (rzE s).1).2.1,(conP (hdE (calP (rzE s).1).2.2.1)).1,(conP (hdE (calP (rzE s).1).2.2.1)).2.1,(conP (hdE (calP (rzE s).1).2.2.1)).2.2,(calP (rzE s).1).2.2.2,(rzE s).2)
noncomputable abbrev dvZ:Pos×Str×Nat×Pos×Pos×Pos:=rzP (hdS dvX3.2.1)
theorem dv_body:dvB=dvB.take 4++ .If dvX4.1 [.For (.Name (zT dvQ.1).1 (zT dvQ.1).2) dvQ.2.1 dvQ.2.2 [] (match hdS dvX4.2.1 with| .For _ _ _ _ p=>p|_=>p0)] [] dvX4.2.2::dvB.drop 5:=by kernel_rfl
theorem dv_raise:dvQ.2.2= .If dvX1.1 (.If dvX2.1 (.If dvX3.1 [.Raise (some (.Call (.Name "TiesException" dvZ.1) [.Constant (.str dvZ.2.1) dvZ.2.2.1 dvZ.2.2.2.1] [] dvZ.2.2.2.2.1)) none dvZ.2.2.2.2.2] [] dvX3.2.2::dvX2.2.1.drop 1) [] dvX2.2.2::dvX1.2.1.drop 1) [] dvX1.2.2::dvQ.2.2.drop 1:=by kernel_rfl
theorem dv_z(w:World)(Z:FrS→List Stmt→St→Prop)(V:List Int)(k:Nat)(me:Str)(al:Bool):fnZ w 531 [vlS V,.int k,.str me,.bool al] [] st0 Z=Z yU dvB (dvH V k me al):=by kernel_rfl
noncomputable def insI(x:Int):List Int→List Int
 | []=> [x]
 |y::r=>match decide (x≤y)with
  |true=>x::y::r
  |false=>y::insI x r
noncomputable def isrt(l:List Int):List Int:=l.foldr insI []
theorem insI_ok(x:Int){l:List Int}(h:l.Pairwise (· ≤·)):(insI x l).Perm (x::l)∧(insI x l).Pairwise (· ≤·):=by
 induction l with
 |nil=>exact⟨.refl _,List.pairwise_singleton ..⟩
 |cons y r ih=>
  obtain⟨h1,h2⟩:=List.pairwise_cons.mp h
  unfold insI
  cases c:decide (x≤y)with
  |true=>
   have c:=of_decide_eq_true c
   exact⟨.refl _,List.pairwise_cons.mpr ⟨List.forall_mem_cons.mpr ⟨c,fun z m=>Int.le_trans c (h1 z m)⟩,h⟩⟩
  |false=>
   have c:=Int.le_of_lt (Int.not_le.mp (of_decide_eq_false c))
   obtain⟨i1,i2⟩:=ih h2
   exact⟨(i1.cons y).trans (.swap x y r),List.pairwise_cons.mpr ⟨fun z m=>(List.mem_cons.mp (i1.mem_iff.mp m)).elim (fun e=>e▸c) (h1 z),i2⟩⟩
theorem isrt_ok(l:List Int):(isrt l).Perm l∧(isrt l).Pairwise (· ≤·):=by
 induction l with
 |nil=>exact⟨.refl _,.nil⟩
 |cons x r ih=>
  obtain⟨h1,h2⟩:=insI_ok x ih.2
  exact⟨h1.trans (ih.1.cons x),h2⟩
theorem isrt_eq{l b:List Int}(h:b.Perm l)(hu:b.Pairwise (· ≤·)):b=isrt l:=
 List.Perm.eq_of_pairwise (le:=(· ≤·)) (fun a b _ _ h1 h2=>Int.le_antisymm h1 h2) hu (isrt_ok l).2 (h.trans (isrt_ok l).1.symm)
noncomputable abbrev Dv:Type:=Str×Nat×Int×Int×List Int
noncomputable def wz(V:List Int)(p:Dv):List (List Int):=V.map (wtF p.2.2.2.1 p.2.2.2.2)
noncomputable def dvM(V:List Int)(p:Dv):Int:=(isrt (wz V p).flatten).getD ((wz V p).flatten.length-p.2.1+V.length*p.2.2.1.toNat) 0
noncomputable def dvR(V:List Int)(p:Dv):List Int:=V.map fun v=>p.2.2.1+(((wtF p.2.2.2.1 p.2.2.2.2 v).filter fun a=>decide (dvM V p<a)).length:Int)
noncomputable def wW(k:Nat)(m:Int)(ws:List (List Int))(x:List Int×Bool)(i:Nat):List Int×Bool:=
 (match decide (x.1.sum<k) &&(ws.getD i []).any fun a=>a==m with
  |true=>x.1.set i (x.1.getD i 0+1)
  |false=>x.1,x.2||(x.1.sum==(k:Int) &&(ws.getD i []).any fun a=>a==m))
noncomputable def dvX(V:List Int)(p:Dv)(n:Nat):List Int×Bool:=(List.range n).foldl (wW p.2.1 (dvM V p) (wz V p)) (dvR V p,false)
noncomputable def xc(V:List Int)(p:Dv):List Int×Bool:=match decide ((dvR V p).sum<p.2.1)with
 |true=>dvX V p V.length
 |false=>(dvR V p,false)
noncomputable def dvSt(i:Nat)(V:List Int)(p:Dv)(al ti:Bool)(rs:List Int):St:=dvS i V p.2.1 al ti rs ((wz V p).map vlS) (dvM V p) (some (.vlist (p.2.2.2.2.map fun d=>.tup [.int d,.int 1]))) (some (.int p.2.2.2.1))
noncomputable def dvSti(i:Nat)(V:List Int)(p:Dv)(al ti:Bool)(rs:List Int):St:=dvSi i V p.2.1 al ti rs ((wz V p).map vlS) (dvM V p) (some (.vlist (p.2.2.2.2.map fun d=>.tup [.int d,.int 1]))) (some (.int p.2.2.2.1))
theorem condR_of{m:Int}{ws:List Int}:∀{acc:List SV} {K:List SV→Prop},acc.length+ws.length≤1000→(∀L:List SV,L.length=acc.length+(ws.filter fun a=>decide (m<a)).length→K L)→condR m ws acc K:=by
 induction ws with
 |nil=>exact fun h k=>⟨h,k _ rfl⟩
 |cons a r ih=>
  intro acc K h k
  refine⟨Nat.le_trans (Nat.le_add_right ..) h,ih ?_ fun L hL=>k L ?_⟩
  ·rw [List.length_append,Nat.add_assoc]
   refine Nat.le_trans (Nat.add_le_add_left ?_ _) h
   rw [List.length_cons,Nat.add_comm]
   exact Nat.add_le_add_left (by cases decide (m<a)with|true=>exact Nat.le_refl 1|false=>exact Nat.zero_le 1) _
  ·rw [hL,List.length_append,Nat.add_assoc,List.filter_cons]
   cases decide (m<a)with
   |true=>exact congrArg _ (Nat.add_comm ..)
   |false=>exact congrArg _ (Nat.zero_add _)
theorem condP_of{m:Int}{c r0:Int}{ds:List Int}(hd:ds.length≤1000)(V:List Int):∀{acc:List Int} {K:List Int→Prop},K (acc++V.map fun v=>r0+(((wtF c ds v).filter fun a=>decide (m<a)).length:Int))→condP m (V.map (wtF c ds)) (V.map fun _=>r0) acc K:=by
 induction V with
 |nil=>exact fun k=>by rw [List.map_nil,List.append_nil]at k;exact k
 |cons v V ih=>
  intro acc K k
  refine⟨rfl,condR_of ?_ fun L hL=>ih ?_⟩
  ·show 0+(ds.map _).length≤1000
   rw [Nat.zero_add,List.length_map];exact hd
  ·rw [hL,List.append_assoc]
   show K (acc++((r0+((0+_:Nat):Int))::_))
   rw [Nat.zero_add];exact k
theorem dvP_of{V:List Int}{p:Dv}{al:Bool}{J:St→Prop}(h0:∀v∈V,0<v)(hd:p.2.2.2.2.length≤1000)(h:J (dvSt 10 V p al false (dvR V p))):dvP V p.2.1 al p.2.2.1 p.2.2.2.1 p.2.2.2.2 J:=by
 have pos:∀{R:Prop},R→posV p.2.2.1 V R:=fun{R} r=>by
  have:∀W:List Int,(∀v∈W,0<v)→W.foldr (fun v R=>0<v∧R) R:=fun W=>by
   induction W with
   |nil=>exact fun _=>r
   |cons v W ih=>exact fun h=>⟨h v (.head _),ih fun x m=>h x (.tail _ m)⟩
  unfold posV
  split
  ·exact r
  ·exact this V h0
 refine pos (all_N (fun bs hp hu=> ?_) _)
 obtain rfl:=isrt_eq hp hu
 have h:J (dvS 10 V p.2.1 al false (dvR V p) ((wz V p).map vlS) (dvM V p) _ _):=h
 unfold wz at h
 rw [List.map_map]at h
 exact condP_of hd V ⟨trivial,trivial,h⟩
theorem dvHit_of{w:List Int}{m:Int}{b:Bool}{R1 R0:Prop}(e:(w.any fun x=>x==m)=b)(h1:b=true→R1)(h0:b=false→R0):dvHit w m R1 R0:=⟨w,rfl,fun q=>h1 (e.symm.trans q),fun q=>h0 (e.symm.trans q)⟩
theorem dvF_of{i k:Nat}{rs w:List Int}{m:Int}{b:Bool}{J:List Int→Prop}(e:(w.any fun x=>x==m)=b)(h:J (match decide (rs.sum<k) &&b with|true=>rs.set i (rs.getD i 0+1)|false=>rs)):dvF i k rs w m J:=by
 refine⟨fun e2=> ?_,fun e2=> ?_⟩
 ·rw [e2]at h
  cases b with
  |true=>exact dvHit_of e (fun _=>h) fun q=>nomatch q
  |false=>exact dvHit_of e (fun q=>nomatch q) fun _=>h
 ·rw [e2]at h;exact h
theorem dvT_of{i k:Nat}{al ti:Bool}{rs:List Int}{ws:List (List Int)}{m:Int}{J:List Int→Bool→Prop}(hx:al=false→ti=false∧(rs.sum==(k:Int) &&(ws.getD i []).any fun a=>a==m)=false)(h:J (wW k m ws (rs,ti) i).1 (wW k m ws (rs,ti) i).2):dvT i k al ti rs (ws.getD i []) m J:=by
 have h:J (match decide (rs.sum<k) &&(ws.getD i []).any fun a=>a==m with|true=>rs.set i (rs.getD i 0+1)|false=>rs) (ti||(rs.sum==(k:Int) &&(ws.getD i []).any fun a=>a==m)):=h
 generalize e:((ws.getD i []).any fun a=>a==m)=b at h hx
 refine⟨fun e2=> ?_,fun e2=>dvF_of e ?_⟩
 ·rw [e2]at h hx
  cases b with
  |true=>
   refine dvHit_of e (fun _=> ?_) fun q=>nomatch q
   cases ti with
   |true=>exact dvF_of e h
   |false=>
    cases al with
    |true=>exact dvF_of e h
    |false=>exact(Bool.noConfusion (hx rfl).2)
  |false=>
   rw [Bool.and_false,Bool.and_false,Bool.or_false]at h
   refine dvHit_of e (fun q=>nomatch q) fun _=>dvF_of e ?_
   rw [Bool.and_false];exact h
 ·rw [e2,Bool.false_and,Bool.or_false]at h;exact h
noncomputable def fa(l:List Env):List Addr:=l.filterMap (·.frame)
noncomputable def FrOk(l:List Env)(G:GH)(h:Heap):Prop:=∀env∈l,env.scope.kind≠ .module∧∃L o,env.frame=some L∧G L=none∧h.get? L=some o∧∀vs,o.data≠ .fields vs
theorem mem_fa{l:List Env}{b:Addr}(h:b∈fa l):∃env∈l,env.frame=some b:=List.mem_filterMap.mp h
theorem FrOk.frames{l:List Env}{G:GH}{h:Heap}(l':List Env):FrOk l' G h→(∀env∈l',env∈l)→h.FunFrames (hideAll h (fa l)) l':=by
 induction l' with
 |nil=>exact fun _ _=>trivial
 |cons env l' ih=>
  intro f hs
  obtain⟨hk,L,o,hf,_,ho,hd⟩:=f env (.head _)
  exact⟨hk,⟨L,o,hf,hideAll_none _ (List.mem_filterMap.mpr ⟨env,hs env (.head _),hf⟩),ho,hd⟩,ih (fun e m=>f e (.tail _ m)) fun e m=>hs e (.tail _ m)⟩
theorem FrOk.none{l:List Env}{G:GH}{h:Heap}(f:FrOk l G h){b:Addr}(hb:b∈fa l):G b=none:=by
 obtain⟨env,he,hf⟩:=mem_fa hb
 obtain⟨_,L,o,hf',hn,_⟩:=f env he
 obtain rfl:=Option.some.inj (hf.symm.trans hf')
 exact hn
section
variable {w:World}{A:Around}{E:Value→Shared→Prop}{env:Env}{l:List Env}{L a:Addr}{G:GH}{s:Shared}{cls a0:Value}{base:Heap}
theorem exc_note1{oe:Obj}{vs:Array Value}{Q:Unit→Shared→Prop}(hfr:A.frames=some (env::l))(hf:env.frame=some L)(hl:s.heap.FunFrames base (env::l))(he:s.heap.get? a=some oe)(st:base.StaysIn s.heap)(hn:base.get? a=none)(hd:oe.data= .fields vs)(h1:vs[1]? =some .none)(h0:vs[0]? =some a0)
  (k:∀h2,Heap.NotedW base (env::l) a oe.cls a0 (rawInt L) s.heap h2→Q () {s with heap:=h2}):wpAny (model pw w) A (noteFrame (.ref a) env) Q E s:=by
 unfold noteFrame
 rw [hf]
 refine wpAny_bind (wpAny_field he hd h1 ?_)
 rw [if_neg (show¬((Value.none !=Value.none)=true) by decide)]
 exact wpAny_entryW hfr hl hf he st hn hd (Array.getElem?_eq_some_iff.mp h1).1 h0 k
theorem exc_held{h':Heap}{args:List Value}{Q:Unit→Shared→Prop}(hfr:A.frames=some (env::l))(hf:env.frame=some L)(F:FrOk (env::l) G s.heap)(hx:Heap.MadeExcOf s.heap h' a (.ref 501) args)
  (k:∀h2 t,Heap.HeldW (hideAll s.heap (fa (env::l))) (env::l) a (.ref 501) (.ref t) L h2→s.heap.UpToSlots h2→Q () {s with heap:=h2}):wpAny (model pw w) A (noteFrame (.ref a) env) Q E {s with heap:=h'}:=by
 obtain⟨t,he,htn,ht⟩:=hx.there
 have hl:=FrOk.frames (l:=env::l) _ F fun _ h=>h
 have st:(hideAll s.heap (fa (env::l))).StaysIn h':=fun b o e=>hx.keeps b o (of_hideAll _ e)
 have fresh:(hideAll s.heap (fa (env::l))).get? a=none:=yW (fun o e=>⟨o,of_hideAll _ e⟩) hx.new
 refine exc_note1 hfr hf (hl.of_keeps fun b o hb _=>⟨o,hx.keeps b o hb,rfl⟩) he st fresh (a0:= .ref t) rfl rfl rfl fun h2 hN=> ?_
 obtain⟨k1,k2,k3,k4⟩:=hN
 exact k h2 t ⟨k1,fresh,k2,k3⟩ ((Heap.UpToSlots.of_keeps hx.keeps).trans k4)
theorem exc_back(hf:env.frame=some L)(hh:Heap.HeldW base (env::l) a cls a0 L s.heap)(k:∀h2,Heap.HeldW base (env::l) a cls a0 L h2→s.heap.UpToSlots h2→E (.ref a) {s with heap:=h2}):cameBackBy (model pw w) A env E (.ref a) s:=by
 obtain⟨f1,f2,f3,oe,vs,T,oT,ts,he,hcls,hd,h1,hnT,hTe,hT,hdT,h3⟩:=hh
 unfold cameBackBy
 refine wpAny_bind (wpAny_field he hd h1 ?_)
 rw [if_neg (by simp)]
 unfold setFlight
 refine wpAny_bind (wpAny_field he hd h1 ?_)
 rw [if_pos (show(Value.ref T !=Value.none)=true from by simp),hf]
 refine wpAny_setField hT hdT (Array.getElem?_eq_some_iff.mp h3).1 ?_
 have other:∀b,b≠T→(s.heap.update T (Obj.mapFields (·.setIfInBounds 3 ((some L).elim Value.none fun f=>rawInt f)))).get? b=s.heap.get? b:=fun b hb=>Heap.get?_update_other _ _ (Ne.symm hb)
 have noRecord:∀b o,s.heap.get? b=some o→(∀vs,o.data≠ .fields vs)→b≠T:=fun b o hb hnf q=>hnf ts ((Option.some.inj (hb.symm.trans (q▸hT)))▸hdT)
 have hd₃:=Obj.data_mapFields hdT (·.setIfInBounds 3 ((some L).elim Value.none fun f=>rawInt f))
 refine k _ ⟨fun b o e=>(other b fun q=>zu hnT (q▸e)).trans (f1 b o e),f2,f3.of_keeps fun b o hb hnf=>⟨o,(other b (noRecord b o hb hnf)).trans hb,rfl⟩,oe,vs,T,_,_,(other a (Ne.symm hTe)).trans he,hcls,hd,h1,hnT,hTe,Heap.get?_update_self _ hT (Obj.isFreed_of_fields hd₃),hd₃,?_⟩ fun b o hb hnf=>⟨o.slots,(other b (noRecord b o hb hnf)).trans hb⟩
 have:=(Array.getElem?_eq_some_iff.mp h3).1
 show(ts.setIfInBounds 3 (rawInt L))[3]? =_
 rw [Array.getElem?_setIfInBounds_self_of_lt this]
theorem exc_leave{Q:Unit→Shared→Prop}(hf:env.frame=some L)(hh:Heap.HeldW base (env::l) a cls a0 L s.heap)(k:∀h2,Heap.FlyingW base l a cls a0 h2→s.heap.UpToSlots h2→Q () {s with heap:=h2}):wpAny (model pw w) A (leaving env (.ref a)) Q E s:=by
 unfold leaving
 refine wpAny_bind (wpAny_noteFrame_againW hf hh.2.2.2 ?_)
 refine wpAny_landsW hh fun h' hfl hs=> ?_
 obtain⟨k1,k2,⟨_,_,k3⟩,k4⟩:=hfl
 exact k h' ⟨k1,k2,k3,k4⟩ hs
inductive EXC(l:List Env)(z:Z):Value→Shared→Prop
 |mk {G1:GH} {s0 s':Shared} {hid:List Addr} {a:Addr} {base:Heap} {a0:Value}:Step z ⟨G1,z.ρ,z.st,s0⟩→Heap.FlyingW base l a (.ref 501) a0 s'.heap→(∀b o,s0.heap.get? b=some o→b∉hid→base.get? b=some o)→
  (∀b∈hid,(b∈fa l∨z.s.heap.get? b=none)∧G1 b=none)→s0.heap.UpToSlots s'.heap→GS s0 s'→EXC l z (.ref a) s'
variable {z z1:Z}{s':Shared}{G1:GH}{h':Heap}{args:List Value}{w':World}
theorem exc_loop(hfr:A.frames=some (env::l))(hf:env.frame=some L)(hL:z.s.heap.get? L=none)(F:FrOk (env::l) G1 s.heap)(S:Step z ⟨G1,z.ρ,z.st,s⟩)(hx:Heap.MadeExcOf s.heap h' a (.ref 501) args)(k:∀e s',EXC l z e s'→E e s'):
  notedBy (model pw w) A env (fun e s'=>cameBackBy (model pw w) A env (fun e s'=>wpAny (model pw w) A (leaving env e) (fun _ s''=>E e s'') (fun e' s''=>E e' s'') s') e s') (.ref a) {s with heap:=h'}:=
 exc_held hfr hf F hx fun h2 t hh hu=>exc_back hf hh fun h3 hh3 hu3=>exc_leave hf hh3 fun h4 hfl hu4=>k _ _ (.mk S hfl (fun b o e hn=>hideAll_get _ e hn) (fun b hb=>⟨by
  obtain⟨env',he,hf'⟩:=mem_fa hb
  rcases List.mem_cons.mp he with rfl|he
  ·exact .inr (Option.some.inj (hf.symm.trans hf')▸hL)
  ·exact .inl (List.mem_filterMap.mpr ⟨env',he,hf'⟩),F.none hb⟩) ((hu.trans hu3).trans hu4) (.same rfl rfl))
theorem exc_next(hfr:A.frames=some (env::l))(hf:env.frame=some L)(hL:z.s.heap.get? L=none)(S:∀G2 s0,Step z1 ⟨G2,z1.ρ,z1.st,s0⟩→Step z ⟨G2,z.ρ,z.st,s0⟩)(hd:∀b,z1.s.heap.get? b=none→z.s.heap.get? b=none){e:Value}(x:EXC (env::l) z1 e s')
  (k:∀e s',EXC l z e s'→E e s'):wpAny (model pw w) A (leaving env e) (fun _ s''=>E e s'') (fun e' s''=>E e' s'') s':=by
 obtain⟨S2,hfl,hb,hn,hu,hs⟩:=x
 refine wpAny_leaves_onW hfr hf hfl fun h' x1 x2=>k _ _ (.mk (S _ _ S2) x1 hb (fun b hb=>⟨?_,(hn b hb).2⟩) (hu.trans x2) (hs.trans (.same rfl rfl)))
 rcases(hn b hb).1 with h|h
 ·obtain⟨env',he,hf'⟩:=mem_fa h
  rcases List.mem_cons.mp he with rfl|he
  ·exact .inr (Option.some.inj (hf.symm.trans hf')▸hL)
  ·exact .inl (List.mem_filterMap.mpr ⟨env',he,hf'⟩)
 ·exact .inr (hd b h)
theorem FrOk.here(F:FrOk l z.G z.s.heap)(r:Rep z){n:Nat}(S:Step (z.to ⟨[],n⟩) z1){fr:FrS}(ev:EnvOk z1.y fr env)(hf:env.frame=some env.locals){c fs}(ho:Has z1.st fr.fid (.ns c fs)):FrOk (env::l) z1.G z1.s.heap:=by
 refine List.forall_mem_cons.mpr ⟨?_,fun env' he=> ?_⟩
 ·obtain⟨o,w⟩:=S.rep.own _ _ ho
  obtain⟨_,⟨es,ep,e,_⟩,_⟩:=w.rel
  exact⟨by rw [ev.scope,ev.kind];decide,_,o,hf,ev.locals▸w.gn,ev.locals▸w.hp,fun vs q=>Data.noConfusion (e.symm.trans q)⟩
 ·obtain⟨hk,L,o,h1,h2,h3,h4⟩:=F env' he
  obtain⟨p,_,q⟩:=S.out L o h3 ⟨fun _ _ h=>(nomatch h),fun m=>by
   obtain⟨o',w⟩:=r.tab L m
   have:=w.tab
   rw [Option.some.inj (w.at'.symm.trans h3)]at this
   cases this with|mk=>exact h4 _ rfl⟩
  exact⟨hk,L,o,h1,q.trans h2,p,h4⟩
theorem exc_caught{base:Heap}{hid:List Addr}{c:String}{fs:List (Str×SV)}{i:Nat}{s0:Shared}(r:Rep z)(hf:env.frame=some (z.ρ i))(h4:Has z.st i (.ns c fs))(S:Step z ⟨G1,z.ρ,z.st,s0⟩)(hb:∀b o,s0.heap.get? b=some o→b∉hid→base.get? b=some o)
  (hn:∀b∈hid,(b∈fa [env]∨z.s.heap.get? b=none)∧G1 b=none) (hk:base.StaysIn s'.heap) (hu:s0.heap.UpToSlots s'.heap) (gs:GS s0 s'):Step z ⟨G1,z.ρ,z.st,s'⟩:=by
 have hfa:∀b∈fa [env],b=z.ρ i:=fun b hb=>by
  obtain⟨e,he,hf'⟩:=mem_fa hb
  rw [List.mem_singleton.mp he,hf]at hf'
  exact(Option.some.inj hf').symm
 have keepS:∀b o,s0.heap.get? b=some o→b∉hid→s'.heap.get? b=some o:=fun b o e h=>hk _ _ (hb b o e h)
 have own':∀j so,Has z.st j so→∃o,Own ⟨G1,z.ρ,z.st,s'⟩ j so o:=fun j so e=>by
  obtain⟨o,v⟩:=S.rep.own j so e
  by_cases h:z.ρ j∈hid
  ·have e4:z.ρ j=z.ρ i:=(hn _ h).1.elim (hfa _) fun h=>let⟨_,q⟩:=r.live e;(zu h q).elim
   obtain rfl:=r.inj _ _ _ _ e h4 e4
   obtain rfl:=Option.some.inj (e.symm.trans h4)
   obtain⟨l,⟨es,ep,ed,b1⟩,b2⟩:=v.rel
   obtain⟨sl,hs⟩:=hu _ _ v.hp fun vs q=>Data.noConfusion (ed.symm.trans q)
   exact⟨_,v.lt,v.gn,hs,.ns ⟨es,ep,ed,b1⟩ b2⟩
  ·exact⟨o,v.lt,v.gn,keepS _ _ v.hp h,v.rel⟩
 have outT:∀b o,z.At b o→z.Out b→b∉hid:=fun b o e n h=>(hn b h).1.elim (fun h=>n.1 i _ h4 (hfa _ h).symm) fun h=>zu h e
 refine⟨⟨fun b o e=>keepS _ _ (S.rep.sub b o e) fun h=>zu (hn b h).2 e,own',S.rep.inj,fun b m=> ?_⟩,S.le,fun b o e n=> ?_,fun j so e=> ?_,S.gs.trans gs⟩
 ·obtain⟨o,v⟩:=r.tab b m
  obtain⟨o',v'⟩:=S.rep.tab b m
  refine v'.to (keepS _ _ v'.at' fun h=> ?_) v'.gn v'.ow
  exact(hn b h).1.elim (fun h=>v.ow i _ h4 (hfa _ h).symm) fun h=>zu h v.at'
 ·obtain⟨p,q⟩:=S.out b o e n
  exact⟨keepS _ _ p (outT b o e n),q⟩
 ·obtain⟨o,v⟩:=own' j so e
  exact⟨r.live e,o,v.hp⟩
end
section
variable {w:World}{P:Prims}{d n:Nat}{A:Around}{E:Value→Shared→Prop}{z:Z}{env:Env}{fr:FrS}{Q:Flow→Shared→Prop}
theorem x_pre(S0:Sound w P d){J:St→Prop}{rest:List Stmt}(ha:AOk d A)(xs:List Stmt):∀{n z},vc w P n (.Ss xs fr z.st (nxtK J))→EnvOk z.y fr env→Ok w z→(∀z1,Step z z1→Ok w z1→J z1.st→wpAny (model pw w) A (execs rest env) Q E z1.s)→wpAny (model pw w) A (execs (xs++rest) env) Q E z.s:=by
 induction xs with
 |nil=>
  intro n z h ev ok k
  cases n with
  |zero=>exact h.elim
  |succ n=>exact k z (.refl ok.rep) ok h
 |cons s r ih=>
  intro n z h ev ok k
  cases n with
  |zero=>exact h.elim
  |succ n=>
   refine wpAny_execs_cons ((ya (t:= .S s fr z.st _) S0 h z env rfl ev).go ok ha fun z1 f u S1 o1 q k1=> ?_)
   cases q with
   |next=>exact ih k1 (S1.env ev) o1 fun z2 S2 o2 j=>k z2 (S1.trans S2) o2 j
   |_=>exact k1.elim
theorem x_if(S0:Sound w P d){t:Expr}{b o:List Stmt}{p:Pos}{K:KT}(h:vc w P n (.T t fr z.st K))(ev:EnvOk z.y fr env)(ha:AOk d A)(ok:Ok w z)
  (k:∀z1 s c,Step z z1→Ok w z1→K s c z1.st→wpAny (model pw w) A (execs (match c with|true=>b|false=>o) env) Q E z1.s):wpAny (model pw w) A (exec (.If t b o p) env) Q E z.s:=
 wpAny_If ((ya (t:= .T t fr z.st K) S0 h z env rfl ev).go ok ha fun z1 c u S1 o1 q k1=>by
  obtain⟨s,c⟩:=c
  obtain rfl:c=u:=q
  have:=k z1 s c S1 o1 k1
  cases c with
  |true=>exact this
  |false=>exact this)
theorem x_cons{s:Stmt}{r:List Stmt}(h:wpAny (model pw w) A (exec s env) (fun _ _=>False) E z.s):wpAny (model pw w) A (execs (s::r) env) Q E z.s:=
 wpAny_execs_cons (wm h fun _ _ z=>z.elim)
theorem x_raise(S0:Sound w P d){np cpos pos kp:Pos}{tx:Str}{kk:Nat}(hn:y6 fr z.st "TiesException"=some (.top (.ref 501)))(ha:AOk d A)(ok:Ok w z)(ev:EnvOk z.y fr env)
  (k:∀z1 h' e args,Step z z1→Ok w z1→Heap.MadeExcOf z1.s.heap h' e (.ref 501) args→z1.st=z.st→E (.ref e) {z1.s with heap:=h'}):wpAny (model pw w) A (exec (.Raise (some (.Call (.Name "TiesException" np) [.Constant (.str tx) kk kp] [] cpos)) none pos) env) Q E z.s:=by
 have X:=ok.kin
 have hC':(KH w.params).lookup 501=some (excClassObj "TiesException" "TiesException" 501 500 [(.type "Exception")] [.type "Exception",.type "BaseException",.type "object"] true [] [] false none none (some (.ref 492)) none (some (.str "TiesException" 851)) (some (.str "TiesException" 859)) (some (.bool true)) "Exception.__new__"):=by kernel_rfl
 have hk:nsOkIn (KH w.params) 500=true:=by kernel_rfl
 refine wpAny_Raise_call_subT (C:=501) (N:=500) (nm:="TiesException") (q:="TiesException") (bs:=[.type "Exception"]) (hdct:=true) (sn:=[]) (sub:=[]) (ab:=false) (col:=none) (dd:=none) (k0:=some (.ref 492)) (k1:=none) (k2:=some (.str "TiesException" 851)) (k3:=some (.str "TiesException" 859)) (k5:=some (.bool true)) (bm:=[.type "Exception",.type "BaseException",.type "object"]) (mN:=z.s.heap.nsMap 500) PySem.F.excBase_Exception (by decide) ha.1 rfl (nsMap_none_of_in X hk (by kernel_rfl)) ?_
 refine wpAny_Name (yX hn ok ev fun u hu=> ?_) (by decide)
 obtain rfl:=hu.inv
 refine⟨rfl,evalArgs_plain (spliced_cons ?_)⟩
 show wpAny (model pw w) A (eval (.Constant (.str tx) kk kp) env) _ _ _
 have hv:vc w P 1 (.E (.Constant (.str tx) kk kp) fr z.st fun v st'=>st'=z.st):=rfl
 refine(ya S0 hv z env rfl ev).go ok ha fun z1 v u S o1 q k2=>spliced_nil ?_
 have hNs:z1.s.heap.Ns 500 (z.s.heap.nsMap 500):=by
  obtain⟨o,es,ep,ho,hr⟩:=(Heap.Ns.of_isNs (isNs_of_in X hk):z.s.heap.Ns 500 _)
  obtain⟨o',e'⟩:=Option.isSome_iff_exists.mp (show((KH w.params).lookup 500).isSome=true by kernel_rfl)
  obtain rfl:=Option.some.inj (ho.symm.trans (X _ _ e'))
  exact⟨o,es,ep,o1.kin _ _ e',hr⟩
 exact⟨rfl,by show 1≤sizeLine;rw [sizeLine_eq];decide,o1.kin 501 _ hC',hNs,.base,fun h' e hx=>k z1 h' e _ S o1 hx k2⟩
theorem x_call(S0:Sound w P d){m:Nat}{fn:Str}{fp p:Pos}{es:List Expr}{X:SV}{VS:List SV}{J:St→Prop}{Q:Value→Shared→Prop}(hns:yV es=true)(hd:(fn=="__debug__")=false)
  (hf:y6 fr z.st fn=some X) (he:vc w P m (.Es es fr z.st fun vs st1=>vs=VS∧J st1)) (hk:keeps0 w X=true) (ha:AOk d A) (ok:Ok w z) (ev:EnvOk z.y fr env)
  (k:∀z1 fv vsv,Step z z1→Ok w z1→J z1.st→VRel z1.y X fv→VRels z1.y VS vsv→wpAny (model pw w) A (call fv vsv []) Q E z1.s):wpAny (model pw w) A (eval (.Call (.Name fn fp) es [] p) env) Q E z.s:=by
 refine wpAny_bind (wpAny_Name (yX hf ok ev fun xv q=> ?_) hd)
 refine yG (star_ok hns).1 rfl ((ya (t:= .Es es fr z.st fun vs st1=>vs=VS∧J st1) S0 he z env p rfl ev).go ok ha fun z1 vs us S o1 q1 k1=>wpAny_pure ?_)
 obtain⟨rfl,j⟩:=k1
 obtain⟨κ,hκ⟩:=keeps_ok hk o1 (S.val q)
 exact⟨⟨κ,hκ A E⟩,k z1 xv us S o1 j (S.val q) q1⟩
end
noncomputable abbrev wp(l:List α):Prop:=l.length=2∨l.length=3
section
variable {w:World}{K:KF}{KT':KT}{J:St→Prop}{V rs:List Int}{W:List (List Int)}{k i:Nat}{al ti:Bool}{m c:Int}{D ws:List SV}{c6 c7:Option SV}
theorem il_mem{n i:Nat}(h:i<n)(al ti:Bool):(i,al,ti)∈iL (List.range n):=List.mem_flatMap.mpr ⟨i,List.mem_range.mpr h,List.mem_map.mpr ⟨(al,ti),by cases al<;>cases ti<;>decide,rfl⟩⟩
theorem dt_of(hr:wp rs)(hw:W.length=rs.length)(hi:i<rs.length)(h:dvT i k al ti rs (W.getD i []) m (dvJ V k al W m (some (.vlist D)) (some (.int c)) J)):dvW w K J (dvSi i V k al ti rs (W.map vlS) m (some (.vlist D)) (some (.int c))):=by
 rcases hr with e|e
 ·rw [e]at hw hi
  obtain⟨a,b,rfl⟩:=len2 e
  obtain⟨u,v,rfl⟩:=len2 hw
  exact(zl (dt_2 w K J V k a b m u v D c) (il_mem (n:=2) hi al ti)).mpr h
 ·rw [e]at hw hi
  obtain⟨a,b,q,rfl⟩:=len3 e
  obtain⟨u,v,x,rfl⟩:=len3 hw
  exact(zl (dt_3 w K J V k a b q m u v x D c) (il_mem (n:=3) hi al ti)).mpr h
theorem dx_of(hr:wp rs)(hw:W.length=rs.length)(hi:i<rs.length)(h:(rs.sum==(k:Int) &&(W.getD i []).any fun a=>a==m)=true)(hk:KT' false true (dvSi i V k false false rs (W.map vlS) m c6 c7)):vc w (xn w) 60 (.T dvX1.1 yU (dvSi i V k false false rs (W.map vlS) m c6 c7) KT'):=by
 obtain⟨h1,h2⟩:=zx h
 have H:dvH1 k rs (W.getD i []) m fun x=>KT' false x (dvSi i V k false false rs (W.map vlS) m c6 c7):=⟨fun _=>⟨_,rfl,fun _=>hk,fun q=>Bool.noConfusion (h2.symm.trans q)⟩,fun q=>Bool.noConfusion (h1.symm.trans q)⟩
 rcases hr with e|e
 ·rw [e]at hw hi
  obtain⟨a,b,rfl⟩:=len2 e
  obtain⟨u,v,rfl⟩:=len2 hw
  exact(zl (dx_2 w KT' V k a b m u v c6 c7) (List.mem_range.mpr hi)).mpr H
 ·rw [e]at hw hi
  obtain⟨a,b,q,rfl⟩:=len3 e
  obtain⟨u,v,x,rfl⟩:=len3 hw
  exact(zl (dx_3 w KT' V k a b q m u v x c6 c7) (List.mem_range.mpr hi)).mpr H
theorem d4_of(hr:wp rs)(h:KT' true (decide (rs.sum<k)) (dvS 10 V k al false rs ws m c6 c7)):vc w (xn w) 60 (.T dvX4.1 yU (dvS 10 V k al false rs ws m c6 c7) KT'):=by
 rcases hr with e|e
 ·obtain⟨a,b,rfl⟩:=len2 e
  exact(zl (d4_f w KT' V k al a b 0 m ws c6 c7) (.head _)).mpr h
 ·obtain⟨a,b,q,rfl⟩:=len3 e
  exact(zl (d4_f w KT' V k al a b q m ws c6 c7) (.tail _ (.head _))).mpr h
theorem d4a_of(hr:wp rs)(h:J (dvS 17 V k al false rs ws m (some (.vlist D)) (some (.int c)))):zK 10 17 dvKp J (dvS 10 V k al false rs ws m (some (.vlist D)) (some (.int c))):=by
 rcases hr with e|e
 ·obtain⟨a,b,rfl⟩:=len2 e
  exact(zl (d4_a J V k al a b 0 m ws D c) (.head _)).mpr ⟨trivial,trivial,h⟩
 ·obtain⟨a,b,q,rfl⟩:=len3 e
  exact(zl (d4_a J V k al a b q m ws D c) (.tail _ (.head _))).mpr ⟨trivial,trivial,h⟩
theorem d4r_of{K:KV}(hr:wp V)(h:K (.rng 0 V.length) (dvS 10 V k al false rs ws m c6 c7)):vc w (xn w) 60 (.E dvQ.2.1 yU (dvS 10 V k al false rs ws m c6 c7) K):=by
 rcases hr with e|e
 ·obtain⟨a,b,rfl⟩:=len2 e
  exact(zl (d4_r w K a b 0 k al rs m ws c6 c7) (.head _)).mpr h
 ·obtain⟨a,b,q,rfl⟩:=len3 e
  exact(zl (d4_r w K a b q k al rs m ws c6 c7) (.tail _ (.head _))).mpr h
theorem dit_of{n:Nat}(hn:n=2∨n=3)(st:St):(xn w).iter (.rng 0 n) st=some fun K=>K (.rng 0 n) st:=by
 rcases hn with rfl|rfl
 ·rfl
 ·rfl
end
noncomputable def dvOk(V:List Int)(p:Str×Nat×Int×Int×List Int):Prop:=(p∈dv2L∧V.length=2)∨(p∈dv3L∧V.length=3)
theorem dv_len:∀p∈dv2L++dv3L,p.2.2.2.2.length≤1000:=by decide+kernel
section
variable {V:List Int}{p:Dv}
theorem xd(n:Nat):dvX V p (n+1)=wW p.2.1 (dvM V p) (wz V p) (dvX V p n) n:=by
 unfold dvX
 rw [List.range_succ,List.foldl_append];rfl
theorem dvX_len(n:Nat):(dvX V p n).1.length=V.length:=by
 induction n with
 |zero=>exact List.length_map ..
 |succ n ih=>
  rw [xd]
  unfold wW
  dsimp only
  split
  ·rw [List.length_set];exact ih
  ·exact ih
theorem dvX_tie{i:Nat}(h:(dvX V p i).2=true)(d:Nat):(dvX V p (i+d)).2=true:=by
 induction d with
 |zero=>exact h
 |succ d ih=>
  rw [show i+(d+1)=(i+d)+1 from rfl,xd]
  show((dvX V p (i+d)).2||_)=true
  rw [ih];rfl
end
noncomputable abbrev dvK(V:List Int)(p:Dv)(al:Bool)(z:Z):KV:=fun v st=>v=vlS (xc V p).1∧(al=false→(xc V p).2=false)∧st=z.st
noncomputable abbrev dvTie(V:List Int)(p:Dv)(j:Nat):Prop:=((dvX V p j).1.sum==(p.2.1:Int) &&((wz V p).getD j []).any fun a=>a==dvM V p)=true
noncomputable abbrev dvI(V:List Int)(p:Dv)(al:Bool)(j:Nat)(st:St):Prop:=j≤V.length∧(al=false→(dvX V p j).2=false)∧st=dvSt 17 V p al (dvX V p j).2 (dvX V p j).1
noncomputable abbrev dvRn(w:World)(K:KF)(V:List Int)(p:Dv)(al:Bool)(j:Nat)(st:St):Prop:=vc w (xn w) 60 (.Ss dvQ.2.2 yU st (yZ K (zK 10 17 dvKp (dvI V p al (j+1)))))∨(j<V.length∧al=false∧dvTie V p j∧st=dvSti j V p false false (dvX V p j).1)
section
variable {w:World}{d:Nat}{z z':Z}{V:List Int}{p:Dv}{al:Bool}{A:Around}{E:Value→Shared→Prop}{us:List Value}{env:Env}{l:List Env}
theorem dv_end{i:Nat}{ti:Bool}{rs:List Int}{Q:Flow→Shared→Prop}(hi:i=10∨i=17)(ht:al=false→ti=false)(ev:EnvOk z'.y yU env)(ha:AOk (d+28) A)(ok:Ok w z)(o':Ok w z')(S:Step (z.to st0) z')(hst:z'.st=dvSt i V p al ti rs)
  (k:∀v s,Post VRel (fun v st=>v=vlS rs∧st=z.st) z v s→Q (.ret v) s):wpAny (model pw w) A (execs (dvB.drop 5) env) Q E z'.s:=by
 have hm:(i,al,ti)∈tfL:=by
  rcases hi with rfl|rfl<;>cases al<;>cases ti<;>first|decide|exact Bool.noConfusion (ht rfl)
 have h:=(zl (d5_f w (fun f st=>f= .ret (.ref i)∧st=dvSt i V p al ti rs) V p.2.1 rs (dvM V p) ((wz V p).map vlS) (some (.vlist (p.2.2.2.2.map fun d=>.tup [.int d,.int 1]))) (some (.int p.2.2.2.1))) hm).mpr ⟨rfl,rfl⟩
 refine(ya (t:= .Ss (dvB.drop 5) yU z'.st fun f st=>f= .ret (.ref i)∧st=dvSt i V p al ti rs) (n:=60) (xP w d) (by rw [hst];exact h) z' env rfl ev).go o' ha fun z4 f u S4 o4 q4 k4=> ?_
 obtain⟨rfl,k4⟩:=k4
 cases q4 with
 |ret q=>
  have hh:Has z4.st i (.list (rs.map SV.sint)):=by
   rw [k4]
   rcases hi with rfl|rfl<;>rfl
  obtain⟨vs,n,ho,hr⟩:=o4.rep.list_of hh
  have F:=o4.rep.freeze hh ho
  obtain⟨_,rfl⟩:=q.inv
  have hv:VRel (Z.y ⟨xm z4.G (z4.ρ i) (listOf vs n),z4.ρ,z4.st.drop i,z4.s⟩) (vlS rs) (.ref (z4.ρ i)):= .vlist (ze (fun _=>rfl) _) (if_pos rfl) (F.vals hr)
  have SS:=Step.outer (z':=⟨xm z4.G (z4.ρ i) (listOf vs n),z4.ρ,z4.st.drop i,z4.s⟩) ok.rep (n:=4) ((S.trans S4).trans F)
  exact k _ _ (.mk (z':=⟨xm z4.G (z4.ρ i) (listOf vs n),z.ρ,z.st,z4.s⟩) SS (hv.move rfl) ⟨rfl,rfl⟩)
theorem dvR_23(h:wp V):wp (dvR V p):=by unfold wp dvR;rw [List.length_map];exact h
theorem dvX_23(h:wp V)(j:Nat):wp (dvX V p j).1:=by unfold wp;rw [dvX_len];exact h
theorem dvW_len(j:Nat):(wz V p).length=(dvX V p j).1.length:=(List.length_map ..).trans (dvX_len j).symm
theorem dv_rz{i:Nat}(h23:wp V)(hi:i<V.length)(h:dvTie V p i)(hst:z'.st=dvSti i V p false false (dvX V p i).1)
  (ev:EnvOk z'.y yU env) (ha:AOk (d+28) A) (o':Ok w z') (k:∀z1 h' e args,Step z' z1→EnvOk z1.y yU env→Heap.MadeExcOf z1.s.heap h' e (.ref 501) args→z1.st=z'.st→E (.ref e) {z1.s with heap:=h'}) {Q:Flow→Shared→Prop}:wpAny (model pw w) A (execs dvQ.2.2 env) Q E z'.s:=by
 have S0:=xP w d
 rw [dv_raise]
 let K:KT:=fun _ c st=>c=true∧st=dvSti i V p false false (dvX V p i).1
 have t:=dx_t w K i V p.2.1 (dvX V p i).1 ((wz V p).map vlS) (dvM V p) (some (.vlist (p.2.2.2.2.map fun d=>.tup [.int d,.int 1]))) (some (.int p.2.2.2.1))
 refine x_cons (x_if (K:=K) (n:=60) S0 (by rw [hst];exact dx_of (dvX_23 h23 i) (dvW_len i) (by rw [dvX_len];exact hi) h ⟨rfl,rfl⟩) ev ha o' fun z1 s c S1 o1 ⟨hc,h1⟩=> ?_)
 subst hc
 refine x_cons (x_if (K:=K) (n:=60) S0 (by rw [h1];exact(zl t (.head _)).mpr ⟨rfl,rfl⟩) (S1.env ev) ha o1 fun z2 s c S2 o2 ⟨hc,h2⟩=> ?_)
 subst hc
 have S12:=S1.trans S2
 refine x_cons (x_if (K:=K) (n:=60) S0 (by rw [h2];exact(zl t (.tail _ (.head _))).mpr ⟨rfl,rfl⟩) (S12.env ev) ha o2 fun z3 s c S3 o3 ⟨hc,h3⟩=> ?_)
 subst hc
 have S13:=S12.trans S3
 exact x_cons (x_raise (P:=xn w) S0 (by rw [h3];rfl) ha o3 (S13.env ev) fun z4 h' e args S4 o4 hx h4=>k z4 h' e args (S13.trans S4) ((S13.trans S4).env ev) hx (h4.trans (h3.trans hst.symm)))
theorem Post.to{K K':KV}{v:Value}{s:Shared}(h:Post VRel K z v s)(k:∀x st,K x st→K' x st):Post VRel K' z v s:=by
 cases h with|mk S q h=>exact .mk S q (k _ _ h)
theorem dv_turn{K:KF}(h23:wp V){j:Nat}{u:SV}{st:St}(hu:((List.range V.length).map fun i:Nat=>SV.int i)[j]? =some u)(h:dvI V p al j st):vc w (xn w) 60 (.A dvQ.1 u yU st (dvRn w K V p al j)):=by
 obtain⟨_,hf,rfl⟩:=h
 rw [List.getElem?_map]at hu
 obtain⟨j',e1,rfl⟩:=Option.map_eq_some_iff.mp hu
 obtain⟨hj,e1⟩:=List.getElem?_eq_some_iff.mp e1
 obtain rfl:j=j':=(List.getElem_range hj).symm.trans e1
 have hj:j<V.length:=List.length_range (n:=V.length)▸hj
 refine(dA_f ..).mpr ?_
 by_cases ht:al=false∧dvTie V p j
 ·exact .inr ⟨hj,ht.1,ht.2,by rw [ht.1,hf ht.1];rfl⟩
 ·refine .inl (dt_of (dvX_23 h23 j) (dvW_len j) (by rw [dvX_len];exact hj) (dvT_of (fun e=>⟨hf e,Bool.eq_false_iff.mpr fun q=>ht ⟨e,q⟩⟩) ⟨trivial,trivial,hj,fun e=> ?_,?_⟩))
  ·rw [xd]
   show((dvX V p j).2||_)=false
   rw [hf e,Bool.false_or]
   exact Bool.eq_false_iff.mpr fun q=>ht ⟨e,q⟩
  ·rw [xd];rfl
theorem dv_for{z5 z6:Z}{it:Value}(h23:wp V)(ha:AOk (d+28) A)(o5:Ok w z5)(L:LInv w (d+28) z5 (.rng 0 V.length) it 0 z6)(ev6:EnvOk z6.y yU env)(h6:z6.st=dvSt 10 V p al false (dvR V p))
  (rz:∀z8 h' e args,al=false→(dvX V p V.length).2=true→Step z5 z8→EnvOk z8.y yU env→(∃c fs,Has z8.st 4 (.ns c fs))→Heap.MadeExcOf z8.s.heap h' e (.ref 501) args→notedBy (model pw w) A env (fun e s'=>cameBackBy (model pw w) A env E e s') (.ref e) {z8.s with heap:=h'}):
  codeAny (model pw w) A (.forLoop (.Name (zT dvQ.1).1 (zT dvQ.1).2) it dvQ.2.2 [] env) (xr w A env E (fun f st=>f= .next∧dvI V p al V.length st) z5) z6.s:=by
 have S0:=xP w d
 have n6:z6.st.nx=17:=by rw [h6];rfl
 refine for_loopX (us:=(List.range V.length).map fun i:Nat=>SV.int i) (I:=dvI V p al) (R:=dvRn w (fun f st=>f= .next∧dvI V p al V.length st) V p al) (b0:=10) (kp:=dvKp) (N:=60) S0 (fun j u st hu h=> ?_) (fun j st hu h=> ?_) rng_item ?_ ev6 ha o5 L fun j z7 S7 o7 ev7 h7=> ?_
 ·have e2:Expr.Name (zT dvQ.1).1 (zT dvQ.1).2=dvQ.1:=by kernel_rfl
  rw [e2];exact dv_turn h23 hu h
 ·have:=List.getElem?_eq_none_iff.mp hu
  rw [List.length_map,List.length_range]at this
  exact⟨rfl,Nat.le_antisymm h.1 this▸h⟩
 ·rw [n6,h6]
  exact d4a_of (dvR_23 h23) ⟨Nat.zero_le _,fun _=>rfl,rfl⟩
 ·rw [n6]
  rcases h7 with h7|⟨hj,rfl,ht,h7⟩
  ·exact ya (t:= .Ss dvQ.2.2 yU z7.st _) S0 h7 z7 env rfl ev7 _ _ ha o7
  ·have tie:(dvX V p V.length).2=true:=by
    have:=dvX_tie (V:=V) (p:=p) (i:=j+1) (by rw [xd];show((dvX V p j).2||_)=true;rw [show(_&&_)=true from ht,Bool.or_true]) (V.length-(j+1))
    rwa [Nat.add_sub_cancel' hj]at this
   exact dv_rz h23 hj ht h7 ev7 ha o7 fun z8 h' e args S8 ev8 hx h8=>rz z8 h' e args rfl tie (S7.trans S8) ev8 ⟨_,_,by rw [h8,h7];rfl⟩ hx
theorem dv_bd{z1:Z}{Q:Flow→Shared→Prop}(hp:dvOk V p)(h0:∀v∈V,0<v)(ha:AOk (d+28) A)(ok:Ok w z)(S1:Step (z.to st0) z1)(ev:EnvOk z1.y yU env)(hst:z1.st=dvH V p.2.1 p.1 al)(hQ:∀v s,Post VRel (dvK V p al z) z v s→Q (.ret v) s)
  (rz:∀z8 h' e args,al=false→(xc V p).2=true→Step (z.to st0) z8→EnvOk z8.y yU env→(∃c fs,Has z8.st 4 (.ns c fs))→Heap.MadeExcOf z8.s.heap h' e (.ref 501) args→notedBy (model pw w) A env (fun e s'=>cameBackBy (model pw w) A env E e s') (.ref e) {z8.s with heap:=h'}):
  wpAny (model pw w) A (execs dvB env) Q E z1.s:=by
 have S0:=xP w d
 have ok0:Ok w (z.to st0):=⟨ok.rep.inner 4,ok.base⟩
 have h23:wp V:=hp.imp (·.2) (·.2)
 have hds:p.2.2.2.2.length≤1000:=dv_len p (List.mem_append.mpr (hp.imp (·.1) (·.1)))
 rw [dv_body]
 refine x_pre (n:=60) (J:=zK 10 10 dvKp fun st=>st=dvSt 10 V p al false (dvR V p)) S0 ha _ (by
  rw [hst]
  rcases hp with⟨hp,hV⟩|⟨hp,hV⟩
  ·obtain⟨a,b,rfl⟩:=len2 hV
   exact(zl (dv_2 w _ al a b) hp).mpr (dvP_of h0 hds rfl)
  ·obtain⟨a,b,e,rfl⟩:=len3 hV
   exact(zl (dv_3 w _ al a b e) hp).mpr (dvP_of h0 hds rfl)) ev (S1.ok ok0) fun z2 S2 o2 j2=> ?_
 have n1:z1.st.nx=10:=by rw [hst];rfl
 obtain⟨ρ3,st3,r3,n3,S3,_,h3⟩:=anew_ok (S1.trans S2) (show 4≤10 by decide) (n1▸S2.le.nx) j2
 have ev3:EnvOk (Z.y ⟨z2.G,ρ3,st3,z2.s⟩) yU env:=ev.to (by rw [n1];exact n3) fun i hi=>(r3 i (n1▸hi)).trans (S2.le.rho i hi)
 have o3:=S3.ok ok0
 show wpAny _ _ _ _ _ (Z.s ⟨z2.G,ρ3,st3,z2.s⟩)
 replace h3:(Z.st ⟨z2.G,ρ3,st3,z2.s⟩)=_:=h3
 generalize (⟨z2.G,ρ3,st3,z2.s⟩:Z)=z3 at S3 ev3 o3 h3⊢
 refine wpAny_execs_cons (x_if (K:=fun _ c st=>c=decide ((dvR V p).sum<p.2.1)∧st=dvSt 10 V p al false (dvR V p)) (n:=60) S0 (by rw [h3];exact d4_of (dvR_23 h23) ⟨rfl,rfl⟩) ev3 ha o3 fun z4 s c S4 o4 ⟨hc,h4⟩=> ?_)
 have S34:=S3.trans S4
 have ev4:=S4.env ev3
 have rest:∀{i ti rs} {z':Z},i=10∨i=17→(al=false→ti=false)→xc V p=(rs,ti)→Step (z.to st0) z'→EnvOk z'.y yU env→z'.st=dvSt i V p al ti rs→wpAny (model pw w) A (execs (dvB.drop 5) env) Q E z'.s:=fun hi ht e S ev' hs=>
  dv_end hi ht ev' ha ok (S.ok ok0) S hs fun v s h=>hQ v s (h.to fun x st ⟨h1,h2⟩=>⟨by rw [e];exact h1,fun q=>by rw [e];exact ht q,h2⟩)
 have eF:xc V p=cond c (dvX V p V.length) (dvR V p,false):=by unfold xc;rw [←hc];cases c<;>rfl
 cases c with
 |false=>exact wpAny_execs_nil (rest (.inl rfl) (fun _=>rfl) eF S34 ev4 h4)
 |true=>
  refine wpAny_execs_cons (wpAny_For ((ya (t:= .E dvQ.2.1 yU z4.st fun x st=>x= .rng 0 V.length∧st=z4.st) (n:=60) S0 (by rw [h4];exact d4r_of h23 ⟨rfl,rfl⟩) z4 env rfl ev4).go o4 ha fun z5 x xv S5 o5 q5 ⟨k5,k6⟩=> ?_) (xR (by kernel_rfl)))
  subst k5
  refine wm (S0.iter _ _ (fun x' st'=>x'= .rng 0 V.length∧st'=z5.st) z5 xv _ _ (dit_of h23 _) ⟨rfl,rfl⟩ q5 ha o5) fun it s p6=> ?_
  obtain @⟨z6,x1,_,L,k7,k8⟩:=p6
  subst k7
  have S35:=S34.trans S5
  refine codeAny_mono (dv_for (p:=p) (al:=al) (E:=E) h23 ha o5 L (L.step.env (S5.env ev4)) (k8.trans (k6.trans h4)) fun z8 h' e args hal ht S8 ev8 hh hx=>rz z8 h' e args hal (eF▸ht) (S35.trans S8) ev8 hh hx) fun r s h=> ?_
  cases r with
  |error e=>exact h
  |ok f=>
   obtain @⟨z9,f',_,S9,q9,rfl,k9⟩:=h
   cases q9 with
   |next=>exact wpAny_execs_nil (rest (.inr rfl) k9.2.1 eF (S35.trans S9) (S9.env (S5.env ev4)) k9.2.2)
theorem dv_call(hp:dvOk V p)(h0:∀v∈V,0<v)(ha:AOk (d+29) A)(ok:Ok w z)(q:VRels z.y [vlS V,.int p.2.1,.str p.1,.bool al] us)
  (hz:al=false→(xc V p).2=true→∃l,A.frames=some l∧FrOk l z.G z.s.heap∧∀e s',EXC l z e s'→E e s'):
  wpAny (model pw w) A (call (.ref 531) us []) (Post VRel (dvK V p al z) z) E z.s:=by
 refine wpAny_call (fn_open2 (z:=z.to st0) (Z:=fun fr b st=>fr=yU∧b=dvB∧st=dvH V p.2.1 p.1 al) ((dv_z ..).mpr ⟨rfl,rfl,rfl⟩) ⟨ok.rep.inner 4,ok.base⟩ (q.move rfl) .nil ha.room fun env fr b z1 S1 ev hfr hL hZ=> ?_)
 obtain⟨rfl,rfl,hst⟩:=hZ
 refine dv_bd hp h0 ha.deeper ok S1 ev hst (fun v s h=>h) fun z8 h' e args hal ht SS ev8 ⟨c,fs,hh⟩ hx=> ?_
 obtain⟨l,hfl,F,hE⟩:=hz hal ht
 exact exc_loop (z:=z) (l:=l) (Around.frames_deeper hfl) hfr hL (F.here ok.rep SS ev8 hfr hh) (SS.outer ok.rep) hx hE
end
noncomputable def P41(w:World):Prims:=(xn w).calls (inlH w (xn w) 60 [(519,0)])
theorem P41_ok(w:World)(d:Nat):Sound w (P41 w) (d+29):=(xP w (d+1)).calls (yH (xP w d) _)
noncomputable abbrev cmB:List Stmt:=(tp 38).2.1
noncomputable def cmFr:FrS:=⟨4,[],(tp 38).2.2,.ref 511⟩
noncomputable def cmH(V:List Int)(k:Nat)(me:Str)(al:Bool):St:=⟨[(4,.ns "frame" [("method",.str me),("votes",vlS V),("seats",.int k),("threshold",.non),("tiesallowed",.bool al)])],5⟩
theorem cm_z3(w:World)(Z:FrS→List Stmt→St→Prop)(V:List Int)(k:Nat)(me:Str):fnZ w 512 [.str me,vlS V,.int k] [] st0 Z=Z cmFr cmB (cmH V k me true):=by kernel_rfl
theorem cm_z5(w:World)(Z:FrS→List Stmt→St→Prop)(V:List Int)(k:Nat)(me:Str)(al:Bool):fnZ w 512 [.str me,vlS V,.int k,.non,.bool al] [] st0 Z=Z cmFr cmB (cmH V k me al):=by kernel_rfl
noncomputable def elsP(s:Stmt):List Stmt:=match s with
 | .If _ _ o _=>o
 |_=> []
noncomputable def retP(s:Stmt):Expr×Pos:=match s with
 | .Return (some e) p=>(e,p)
 |_=>(e00,p0)
noncomputable abbrev cm1:Expr×List Stmt×Pos:=ifP (sAt cmB 1)
noncomputable abbrev cm2S:Stmt:=hdS (elsP (sAt cmB 1))
noncomputable abbrev cm2:Expr×List Stmt×Pos:=ifP cm2S
noncomputable abbrev cm3S:Stmt:=hdS (elsP cm2S)
noncomputable abbrev cm3:Expr×List Stmt×Pos:=ifP cm3S
noncomputable abbrev cmC:Expr×Pos:=retP (hdS cm3.2.1)
theorem cm_body:cmB=cmB.take 1++[.If cm1.1 cm1.2.1 [.If cm2.1 cm2.2.1 [.If cm3.1 [.Return (some (.Call (.Name (calP cmC.1).1 (calP cmC.1).2.1) (calP cmC.1).2.2.1 [] (calP cmC.1).2.2.2)) cmC.2] (elsP cm3S) cm3.2.2] cm2.2.2] cm1.2.2]:=by kernel_rfl
noncomputable def cmL:List Str:=["dhondt","saintelague","adams"]
noncomputable abbrev cmE(w:World)(V:List Int)(k:Nat)(me:Str)(al:Bool)(st:St):Prop:=y6 cmFr st (calP cmC.1).1=some (.top (.ref 531))∧vc w (P41 w) 60 (.Es (calP cmC.1).2.2.1 cmFr st fun vs st=>vs=[vlS V,.int k,.str me,.bool al]∧(nsL st 4).isSome=true)
theorem cm_f(w:World)(V:List Int)(k:Nat)(al:Bool):cmL.map (fun me=>vc w (P41 w) 60 (.Ss (cmB.take 1) cmFr (cmH V k me al) (nxtK fun st=>vc w (P41 w) 60 (.T cm1.1 cmFr st fun _ c st=>c=false∧vc w (P41 w) 60 (.T cm2.1 cmFr st fun _ c st=>c=false∧vc w (P41 w) 60 (.T cm3.1 cmFr st fun _ c st=>c=true∧cmE w V k me al st))))))=
 cmL.map fun me=>false=false∧false=false∧true=true∧some (SV.top (.ref 531))=some (.top (.ref 531))∧[vlS V,SV.int k,.str me,.bool al]=[vlS V,.int k,.str me,.bool al]∧true=true:=by kernel_rfl
noncomputable def dvA2:Dv:=("adams",2,1,1,[])
noncomputable def cmOk(V:List Int)(p:Dv):Prop:=dvOk V p∨(p=dvA2∧V.length=2)
theorem dva_f(w:World)(K:SV→Prop)(al:Bool)(a b:Int):yh w (xn w) 60 531 0 [vlS [a,b],.int 2,.str "adams",.bool al] [] st0 (yb K)=posV 1 [a,b] (K (.vlist [.int 1,.int 1])):=by kernel_rfl
theorem cm_me:∀p∈dvA2::(dv2L++dv3L),p.1∈cmL:=by decide+kernel
section
variable {w:World}{d:Nat}{z:Z}{V:List Int}{p:Dv}{al:Bool}{A:Around}{E:Value→Shared→Prop}{xs:List SV}{us:List Value}
theorem dv_call2(hp:cmOk V p)(h0:∀v∈V,0<v)(ha:AOk (d+29) A)(ok:Ok w z)(q:VRels z.y [vlS V,.int p.2.1,.str p.1,.bool al] us)
  (hz:al=false→(xc V p).2=true→∃l,A.frames=some l∧FrOk l z.G z.s.heap∧∀e s',EXC l z e s'→E e s'):
  wpAny (model pw w) A (call (.ref 531) us []) (Post VRel (dvK V p al z) z) E z.s:=by
 rcases hp with hp|⟨rfl,hV⟩
 ·exact dv_call hp h0 ha ok q hz
 ·obtain⟨a,b,rfl⟩:=len2 hV
  have h:=zM (K:=fun v st=>v= .vlist [.int 1,.int 1]∧st=z.st) (xP w d) (k:=0) rfl rfl ((dva_f w _ al a b).mpr ⟨h0 a (.head _),h0 b (.tail _ (.head _)),rfl,rfl⟩) q .nil
  refine wm (h A E ha ok) fun v s r=> ?_
  rcases r with⟨S,q1,rfl,k2⟩
  rcases q1.inv with⟨_,⟨g,hv⟩⟩
  exact .mk S (.vlist (ze (fun _=>rfl) [1,1]) g hv.wk1) ⟨rfl,fun _=>rfl,k2⟩
theorem cm_bd{z1:Z}{env:Env}{Q:Flow→Shared→Prop}(hp:cmOk V p)(h0:∀v∈V,0<v)(ha:AOk (d+29) A)(ok:Ok w z)(S1:Step (z.to st0) z1)(ev:EnvOk z1.y cmFr env)(hfr:env.frame=some env.locals)(hst:z1.st=cmH V p.2.1 p.1 al)(hQ:∀v s,Post VRel (dvK V p al z) z v s→Q (.ret v) s)
  (hz:al=false→(xc V p).2=true→∃l,A.frames=some (env::l)∧FrOk l z.G z.s.heap∧∀z6 e s',Step (z.to st0) z6→EXC (env::l) z6 e s'→E e s'):wpAny (model pw w) A (execs cmB env) Q E z1.s:=by
 have S0:=P41_ok w d
 have ok0:Ok w (z.to st0):=⟨ok.rep.inner 4,ok.base⟩
 have hm:p.1∈cmL:=cm_me p (hp.elim (fun h=>.tail _ (List.mem_append.mpr (h.imp (·.1) (·.1)))) fun h=>h.1▸ .head _)
 rw [cm_body]
 refine x_pre S0 ha _ (by rw [hst];exact(zl (cm_f w V p.2.1 al) hm).mpr ⟨rfl,rfl,rfl,rfl,rfl,rfl⟩) ev (S1.ok ok0) fun z2 S2 o2 j2=> ?_
 have S12:=S1.trans S2
 have ev2:=S2.env ev
 refine wpAny_execs_cons (x_if S0 j2 ev2 ha o2 fun z3 s c S3 o3 ⟨hc,j3⟩=> ?_)
 subst hc
 have S13:=S12.trans S3
 have ev3:=S3.env ev2
 refine wpAny_execs_cons (x_if S0 j3 ev3 ha o3 fun z4 s c S4 o4 ⟨hc,j4⟩=> ?_)
 subst hc
 have S14:=S13.trans S4
 have ev4:=S4.env ev3
 refine wpAny_execs_cons (x_if S0 j4 ev4 ha o4 fun z5 s c S5 o5 ⟨hc,j5,j6⟩=> ?_)
 subst hc
 have S15:=S14.trans S5
 have ev5:=S5.env ev4
 refine wpAny_execs_cons (wpAny_Return_some (x_call S0 (J:=fun st=>(nsL st 4).isSome=true) (by kernel_rfl) (by kernel_rfl) j5 j6 rfl ha o5 ev5 fun z6 fv vsv S6 o6 j7 q1 q2=> ?_))
 obtain rfl:=q1.inv
 have S16:=S15.trans S6
 have ev6:=S6.env ev5
 obtain⟨⟨c,fs⟩,hn⟩:=Option.isSome_iff_exists.mp j7
 refine wm (dv_call2 hp h0 ha o6 q2 fun hal ht=> ?_) fun v s r=> ?_
 ·obtain⟨l,hfl,F,hE⟩:=hz hal ht
  exact⟨env::l,hfl,F.here ok.rep S16 ev6 hfr (yN hn),fun e s' x=>hE z6 e s' S16 x⟩
 ·rcases r with @⟨z7,_,_,S7,q7,k1,k2,_⟩
  subst k1
  exact hQ v _ (.mk (z':=⟨z7.G,z.ρ,z.st,z7.s⟩) (Step.outer ok.rep (S16.trans S7)) (q7.move rfl) ⟨rfl,k2,rfl⟩)
theorem cm_call(hp:cmOk V p)(h0:∀v∈V,0<v)(hx:xs=[.str p.1,vlS V,.int p.2.1]∧al=true∨xs=[.str p.1,vlS V,.int p.2.1,.non,.bool al])(ha:AOk (d+30) A)(ok:Ok w z)(q:VRels z.y xs us)
  (hz:al=false→(xc V p).2=true→∃l,A.frames=some l∧FrOk l z.G z.s.heap∧∀e s',EXC l z e s'→E e s'):
  wpAny (model pw w) A (call (.ref 512) us []) (Post VRel (dvK V p al z) z) E z.s:=by
 have hZ:fnZ w 512 xs [] st0 fun fr b st=>fr=cmFr∧b=cmB∧st=cmH V p.2.1 p.1 al:=by
  rcases hx with⟨rfl,rfl⟩|rfl
  ·exact(cm_z3 ..).mpr ⟨rfl,rfl,rfl⟩
  ·exact(cm_z5 ..).mpr ⟨rfl,rfl,rfl⟩
 have px:zt xs=true:=by rcases hx with⟨rfl,_⟩|rfl<;>rfl
 refine wpAny_call (fn_open2 (z:=z.to st0) hZ ⟨ok.rep.inner 4,ok.base⟩ (q.move px) .nil ha.room fun env fr b z1 S1 ev hfr hL hZ=> ?_)
 obtain⟨rfl,rfl,hst⟩:=hZ
 refine cm_bd hp h0 ha.deeper ok S1 ev hfr hst (fun v s h=>h) fun hal ht=> ?_
 obtain⟨l,hfl,F,hE⟩:=hz hal ht
 exact⟨l,Around.frames_deeper hfl,F,fun z6 e s' S16 x=>exc_next (z:=z) (Around.frames_deeper hfl) hfr hL (fun G2 s0 S=>Step.outer ok.rep (S16.trans S)) (fun b e=>S16.dead e) x hE⟩
end
noncomputable def cmD(w:World)(_:Nat):BT:=fun xs ks st=>some fun K=>∃(p:Dv) (V:List Int),(cmOk V p∧(∀v∈V,0<v)∧xs=[.str p.1,vlS V,.int p.2.1]∧ks=[])∧K (vlS (xc V p).1) st
theorem cmD_ok(w:World)(d:Nat):BTOk w (d+30) (.ref 512) (cmD w 512):=fun xs ks t K z vs kvs e k q qk=>by
 cases e
 obtain⟨p,V,⟨hp,h0,rfl,rfl⟩,k⟩:=k
 obtain rfl:=qk.nil_inv
 exact fun A E ha ok=>wm (cm_call (d:=d) (al:=true) hp h0 (.inl ⟨rfl,rfl⟩) ha ok q fun h=>nomatch h) fun _ _ h=>h.to fun x st ⟨h1,_,h2⟩=>h1▸h2▸k
noncomputable def P42(w:World):Prims:={(P40 w).calls (inlH w (P40 w) 60 [(714,0)])with call:=zp (onA 512 (hdB (cmD w 512))) ((P40 w).calls (inlH w (P40 w) 60 [(714,0)])).call}
theorem P42_ok(w:World)(d:Nat):Sound w (P42 w) (d+30):=
 have S:=(P40_ok w (d+2)).calls (yH (P40_ok w (d+1)) [(714,0)])
 {S with call:=CallOk.or (BTOk.at (cmD_ok w d).hd) S.call}
theorem l6_f(w:World)(J:St→Prop)(wy P:SV)(n:Nat)(k:Int)(V:List Int)(c6:Int)(c7 c8:Option SV)(L:List SV)(v:SV):[0,1,2].map (fun p:Nat=>vc w (P42 w) 60 (.Ss [sAt yt 16,sAt yt 17] yp (lwTe 28 [("told",v)] (.int p) (.sint k) wy n V P c6 c7 c8 L) (nxtK J)))=[0,1,2].map fun p:Nat=>∃(q:Dv) (V':List Int),(cmOk V' q∧(∀v∈V',0<v)∧[SV.str (cmL.getD p ""),vlS V,.sint k].map hd1=[.str q.1,vlS V',.int q.2.1]∧([]:List (Str×SV))=[])∧
 ∃(a:List Int) (B:List (List Int)),(((xc V' q).1.map SV.sint).map wk1=a.map SV.sint∧L.map wkL=B.map vlS)∧((!B.elem a)=true→False)∧((!B.elem a)=false→J ((lwTe 29 [("told",v),("tied",.bool false)] (.int p) (.sint k) wy n V P c6 c7 c8 L).push (.list (cmL.map SV.str)))):=by kernel_rfl
noncomputable def tryB(s:Stmt):List Stmt×List ExceptHandler×Pos:=match s with
 | .Try b h _ _ p=>(b,h,p)
 |_=>([],[],p0)
noncomputable def hanP(l:List ExceptHandler):Expr×List Stmt×Pos:=match l with
 | .ExceptHandler (some e) _ b p::_=>(e,b,p)
 |_=>(e00,[],p0)
noncomputable def expP(s:Stmt):Expr×Pos:=match s with
 | .Expr e p=>(e,p)
 |_=>(e00,p0)
noncomputable def asgP(s:Stmt):Expr×Expr×Pos:=match s with
 | .Assign ts e p=>(hdE ts,e,p)
 |_=>(e00,e00,p0)
noncomputable def tryP(s:Stmt):Expr×Pos×Str×Pos×Str×Pos×(Nat×Pos)×Pos×Pos×Pos:=
 ((expP (hdS (tryB s).1)).1,(expP (hdS (tryB s).1)).2,(zT (hanP (tryB s).2.1).1).1,(zT (hanP (tryB s).2.1).1).2,(zT (asgP (hdS (hanP (tryB s).2.1).2.1)).1).1,(zT (asgP (hdS (hanP (tryB s).2.1).2.1)).1).2,(conP (asgP (hdS (hanP (tryB s).2.1).2.1)).2.1).2,(asgP (hdS (hanP (tryB s).2.1).2.1)).2.2,(hanP (tryB s).2.1).2.2,(tryB s).2.2)
noncomputable abbrev l8:Expr×Pos×Str×Pos×Str×Pos×(Nat×Pos)×Pos×Pos×Pos:=tryP (sAt yt 18)
noncomputable abbrev l8C:Str×Pos×List Expr×Pos:=calP l8.1
noncomputable abbrev l8T:Stmt:= .Try [.Expr (.Call (.Name l8C.1 l8C.2.1) l8C.2.2.1 [] l8C.2.2.2) l8.2.1] [.ExceptHandler (some (.Name "TiesException" l8.2.2.2.1)) none [.Assign [.Name "tied" l8.2.2.2.2.2.1] (.Constant (.bool true) l8.2.2.2.2.2.2.1.1 l8.2.2.2.2.2.2.1.2) l8.2.2.2.2.2.2.2.1] l8.2.2.2.2.2.2.2.2.1] [] [] l8.2.2.2.2.2.2.2.2.2
theorem l8_s:yt.drop 18=[l8T,.Return (some (retP (sAt yt 19)).1) (retP (sAt yt 19)).2]:=by kernel_rfl
noncomputable abbrev lwG(b:Bool)(v:SV)(p:Nat)(k wy:SV)(n:Nat)(V:List Int)(P:SV)(c6:Int)(c7 c8:Option SV)(L:List SV):St:=(lwTe 29 [("told",v),("tied",.bool b)] (.int p) k wy n V P c6 c7 c8 L).push (.list (cmL.map SV.str))
noncomputable abbrev lwG2(b:Bool)(v:SV)(p:Nat)(k wy:SV)(n:Nat)(V:List Int)(P:SV)(c6:Int)(c7 c8:Option SV)(L:List SV):St:=⟨(31,.list (cmL.map SV.str))::(lwG b v p k wy n V P c6 c7 c8 L).own,32⟩
theorem l8_a(w:World)(K:KL)(wy P k:SV)(n:Nat)(V:List Int)(c6:Int)(c7 c8:Option SV)(L:List SV)(v:SV):[0,1,2].map (fun p:Nat=>vc w (P42 w) 60 (.Es l8C.2.2.1 yp (lwG false v p k wy n V P c6 c7 c8 L) K))=[0,1,2].map fun p:Nat=>K [.str (cmL.getD p ""),vlS V,k,.non,.bool false] (lwG2 false v p k wy n V P c6 c7 c8 L):=by kernel_rfl
theorem l8_w(K:KS)(wy P k:SV)(p n:Nat)(V:List Int)(c6:Int)(c7 c8:Option SV)(L:List SV)(v:SV):yD yp (lwG2 false v p k wy n V P c6 c7 c8 L) "tied" (.bool true) K=K (lwG2 true v p k wy n V P c6 c7 c8 L):=by kernel_rfl
noncomputable def asTf(x:SV):Option (Bool×Bool):=match x with
 | .tf s b=>some (s,b)
 |_=>none
theorem asTf_ok{x:SV}{p}(h:asTf x=some p):x= .tf p.1 p.2:=by
 induction x using SV.casesOn with
 |tf=>cases h;rfl
 |_=>exact(zu rfl h).elim
noncomputable def cmpB:CmpOp→SV→SV→St→Tr:=fun op x y st=>(asTf x).bind fun p=>(asTf y).bind fun q=>match op with
 | .Eq=>some fun K=>K (.tf (p.1||q.1) (p.2==q.2)) st
 |_=>none
theorem cmpB_ok{w:World}{d:Nat}:OpOk w d (h2 x5 cmpB):=zH yP fun op x y t K z v u e k q q2 A E _ ok=>by
 obtain⟨p,e1,e⟩:=zz e
 obtain⟨r,e2,e⟩:=zz e
 obtain rfl:=asTf_ok e1
 obtain rfl:=asTf_ok e2
 obtain rfl:=q.inv
 obtain rfl:=q2.inv
 induction op using CmpOp.casesOn with
 |Eq=>cases e;exact eq_bool (ok.rep.end .tf k)
 |_=>exact(zu rfl e).elim
noncomputable def P43(w:World):Prims:={P42 w with op:=yw (h2 x5 cmpB) (P42 w).op,call:=zp (onB false "len" (b1 lenC)) (P42 w).call}
theorem P43_ok(w:World)(d:Nat):Sound w (P43 w) (d+30):={P42_ok w d with op:=cmpB_ok.or (P42_ok w d).op,call:=CallOk.or (BTOk.on (ty:=false) lenC_ok) (P42_ok w d).call}
theorem l9_f(w:World)(K:KV)(wy P k:SV)(p n:Nat)(V:List Int)(c6:Int)(c7 c8:Option SV)(L:List SV)(v:SV)(b:Bool):vc w (P43 w) 60 (.E (retP (sAt yt 19)).1 yp (lwG2 b v p k wy n V P c6 c7 c8 L) K)=(L.length≤1000000∧K (.tf false (b==decide (1<(L.length:Int)))) (lwG2 b v p k wy n V P c6 c7 c8 L)):=by kernel_rfl
section
variable {w:World}{d:Nat}{z z':Z}{V:List Int}{A:Around}{E:Value→Shared→Prop}{env:Env}{wy P:SV}{p n k:Nat}{c6:Int}{c7 c8:Option SV}{L:List SV}{v:SV}{q:Dv}{b:Bool}
theorem FrOk.one(r:Rep z){fr:FrS}(ev:EnvOk z.y fr env)(hf:env.frame=some env.locals){c fs}(ho:Has z.st fr.fid (.ns c fs)):FrOk [env] z.G z.s.heap:=List.forall_mem_cons.mpr ⟨by
 obtain⟨o,w⟩:=r.own _ _ ho
 obtain⟨_,⟨es,ep,e,_⟩,_⟩:=w.rel
 exact⟨by rw [ev.scope,ev.kind];decide,_,o,hf,ev.locals▸w.gn,ev.locals▸w.hp,fun vs q=>Data.noConfusion (e.symm.trans q)⟩,fun _ h=>nomatch h⟩
theorem l9_of(ha:AOk (d+30) A)(ok:Ok w z')(ev:EnvOk z'.y yp env)(hst:z'.st=lwG2 b v p (.sint k) wy n V P c6 c7 c8 L)(hL:L.length≤1000000)(hb:b=decide (1<(L.length:Int)))(S:Step z z'):wpAny (model pw w) A (execs [.Return (some (retP (sAt yt 19)).1) (retP (sAt yt 19)).2] env) (Post FRel (fun f _=>f= .ret (.bool true)) z) E z'.s:=by
 refine wpAny_execs_cons (wpAny_Return_some ((ya (t:= .E (retP (sAt yt 19)).1 yp z'.st fun x _=>x= .bool true) (n:=60) (P43_ok w d) (by rw [hst];exact(l9_f ..).mpr ⟨hL,by rw [hb,beq_self_eq_true]⟩) z' env rfl ev).go ok ha fun z2 x u S2 o2 q2 k2=> ?_))
 exact .mk (S.trans S2) (.ret q2) (congrArg FlowS.ret k2)
theorem l8_ex{ex:Value}{s':Shared}{z1:Z}{st:St}{Q:Flow→Shared→Prop}{c:String}{fs:List (Str×SV)}(hA:A.frames=some [env])(hfr:env.frame=some env.locals)(ev1:EnvOk z1.y yp env)(o1:Ok w z1)(h4:Has z1.st 4 (.ns c fs))(hn:y6 yp z1.st "TiesException"=some (.top (.ref 501)))(hw:yD yp z1.st "tied" (.bool true) fun st'=>st'=st)(x:EXC [env] z1 ex s')(k:∀z',Step z1 z'→z'.st=st→Q .next z'.s):
  wpAny (model pw w) A (noteFrame ex env) (fun _ s₂=>wpAny (model pw w) A (setFlight ex none) (fun _ s₃=>wpAny (model pw w) A (handleBy ex env [.ExceptHandler (some (.Name "TiesException" l8.2.2.2.1)) none [.Assign [.Name "tied" l8.2.2.2.2.2.1] (.Constant (.bool true) l8.2.2.2.2.2.2.1.1 l8.2.2.2.2.2.2.1.2) l8.2.2.2.2.2.2.2.1] l8.2.2.2.2.2.2.2.2.1]) Q E s₃) E s₂) E s':=by
 obtain @⟨G3,s0,_,hid,a,base,a0,S3,hfl,hb,hx,hu,gs⟩:=x
 have hf4:env.frame=some (z1.ρ 4):=hfr.trans (congrArg some ev1.locals)
 refine wpAny_looks_onW hA hfr hfl fun h4' hheld4 hsm4=>wpAny_landsW hheld4 fun h5 hfl5 hsm5=> ?_
 have S5:=exc_caught (s':={s' with heap:=h5}) o1.rep hf4 h4 S3 hb hx hfl5.1 ((hu.trans hsm4).trans hsm5) (gs.trans (.same rfl rfl))
 refine wpAny_handleBy_cons (codeAny_handlers_test (wpAny_Name (yX (z:=⟨G3,z1.ρ,z1.st,{s' with heap:=h5}⟩) (fr:=yp) (x:="TiesException") (v:= .top (.ref 501)) hn (S5.ok o1) (S5.env ev1) fun v q=> ?_) (by kernel_rfl))) (fun q=>Value.noConfusion q)
 obtain rfl:=q.inv
 obtain⟨ob,hob,hc⟩:=hfl5.there
 have LT:Looks (model pw w) h5 (typeOf (.ref a)) (.ref 501):=by rw [←hc];exact(Looks.ld hob).andThen .now
 refine(exm_one (M:=model pw w) (S5.ok o1).kin LT (show exmOne (KH w.params) (.ref 501) (.ref 501)=some true by kernel_rfl)).here (codeAny_handlers_suite (lands_againW hfl5 fun h6 hfl6 hsm6=> ?_))
 have S6:=exc_caught (s':={s' with heap:=h6}) o1.rep hf4 h4 S3 hb hx hfl6.1 (((hu.trans hsm4).trans hsm5).trans hsm6) (gs.trans (.same rfl rfl))
 refine wpAny_execs_cons (wpAny_Assign_Name (wpAny_Constant_bool (wm (writeR (z:=⟨G3,z1.ρ,z1.st,{s' with heap:=h6}⟩) (K:=fun st'=>st'=st) (v:= .bool true) hw S6.rep (S6.env ev1) .tf) fun _ s r=> ?_)))
 obtain @⟨z7,_,_,S7,_,k7⟩:=r
 exact wpAny_execs_nil (k z7 (S6.trans S7) k7)
theorem l8_try{Q:Flow→Shared→Prop}(hA:A.frames=some [env])(hfr:env.frame=some env.locals)(ev:EnvOk z.y yp env)(ha:AOk (d+30) A)(ok:Ok w z)(hst:z.st=lwG false v p (.sint k) wy n V P c6 c7 c8 L)(hp:p∈[0,1,2])(hq:cmOk V q)(h0:∀v∈V,0<v)(hq1:cmL.getD p ""=q.1)(hq2:k=q.2.1)
  (kk:∀z',Step z z'→z'.st=lwG2 (xc V q).2 v p (.sint k) wy n V P c6 c7 c8 L→Q .next z'.s):wpAny (model pw w) A (exec l8T env) Q E z.s:=by
 refine wpAny_Try_except (wpAny_execs_cons (wpAny_Expr_any ?_ (inter_false ev) (sw_false (by kernel_rfl))))
 refine x_call (P42_ok w d) (J:=fun st=>st=lwG2 false v p (.sint k) wy n V P c6 c7 c8 L) (VS:=[.str (cmL.getD p ""),vlS V,.sint k,.non,.bool false]) (X:= .top (.ref 512)) (m:=60) (by kernel_rfl) (by kernel_rfl) (by rw [hst];rfl) (by rw [hst];exact(zl (l8_a w _ wy P (.sint k) n V c6 c7 c8 L v) hp).mpr ⟨rfl,rfl⟩) rfl ha ok ev fun z1 fv vsv S1 o1 j1 q1 q2=> ?_
 obtain rfl:=q1.inv
 have ev1:=S1.env ev
 obtain⟨⟨c,fs⟩,h4⟩:=Option.isSome_iff_exists.mp (show(nsL z1.st 4).isSome=true by rw [j1];rfl)
 have h4:=yN h4
 have q3:VRels z1.y [.str q.1,vlS V,.int q.2.1,.non,.bool false] vsv:=by
  rw [hq1,hq2]at q2
  cases q2 with|cons a1 q2=>cases q2 with|cons a2 q2=>cases q2 with|cons a3 q2=>exact .cons a1 (.cons a2 (.cons a3.hd1 q2))
 refine wpAny_mono (cm_call (d:=d) (E:=fun e s'=>EXC [env] z1 e s'∧(xc V q).2=true) hq h0 (.inr rfl) ha o1 q3 fun _ ht=>⟨[env],hA,FrOk.one o1.rep ev1 hfr h4,fun e s' x=>⟨x,ht⟩⟩) (fun u s r=> ?_) fun e s' ⟨x,ht⟩=> ?_
 ·obtain @⟨z2,_,_,S2,_,_,k1,k2⟩:=r
  exact wpAny_execs_nil (wpAny_execs_nil (kk _ (S1.trans S2) (by rw [k2,j1,k1 rfl])))
 ·exact l8_ex hA hfr ev1 o1 h4 (by rw [j1];rfl) (by rw [j1];exact(l8_w ..).mpr rfl) x fun z' S h=>kk z' (S1.trans S) (by rw [h,ht])
theorem l8_all(hA:A.frames=some [env])(hfr:env.frame=some env.locals)(ev:EnvOk z.y yp env)(ha:AOk (d+30) A)(ok:Ok w z)(hst:z.st=lwG false v p (.sint k) wy n V P c6 c7 c8 L)(hp:p∈[0,1,2])(hq:cmOk V q)(h0:∀v∈V,0<v)(hq1:cmL.getD p ""=q.1)(hq2:k=q.2.1)(hL:L.length≤1000000)(hans:(xc V q).2=decide (1<(L.length:Int))):
  wpAny (model pw w) A (execs (yt.drop 18) env) (Post FRel (fun f _=>f= .ret (.bool true)) z) E z.s:=by
 rw [l8_s]
 exact wpAny_execs_cons (l8_try hA hfr ev ha ok hst hp hq h0 hq1 hq2 fun z' S h=>l9_of ha (S.ok ok) (S.env ev) h hL hans S)
end
noncomputable def lwS0(s:List Int):St:=⟨[(8,.cell none),(7,.cell none),(6,.cell none),(5,.cell none),(4,.ns "frame" [("script",vlS s)])],9⟩
theorem lw_z(w:World)(Z:FrS→List Stmt→St→Prop)(s:List Int):fnZ w 730 [vlS s] [] st0 Z=Z yp yt (lwS0 s):=by kernel_rfl
theorem lw_n(Z:FrS→St→Prop)(s:List Int):newF (.ref 729) (tp 51).2.2 [] "frame" [("script",vlS s)] st0 Z=Z yp (lwS0 s):=by kernel_rfl
theorem lw_of(w:World)(K:KF)(s:List Int)(h:lwH s fun p n k wy q=>K .next (lwS s (lwN s) p n k wy q)):vc w (P37 w) 80 (.Ss (yt.take 9) yp (lwS0 s) K):=by
 refine Eq.mp (lw_n (fun fr st1=>vc w (P37 w) 80 (.Ss (yt.take 9) fr st1 K)) s) ?_
 match s with
 | []=>exact(zl (lw_h w K 0 0 0 0 0 0 0 0 []) (.head _)).mpr h
 | [a]=>exact(zl (lw_h w K a 0 0 0 0 0 0 0 []) (.tail _ (.head _))).mpr h
 | [a,b]=>exact(zl (lw_h w K a b 0 0 0 0 0 0 []) (.tail _ (.tail _ (.head _)))).mpr h
 | [a,b,c]=>exact(zl (lw_h w K a b c 0 0 0 0 0 []) (.tail _ (.tail _ (.tail _ (.head _))))).mpr h
 | [a,b,c,e]=>exact(zl (lw_h w K a b c e 0 0 0 0 []) (.tail _ (.tail _ (.tail _ (.tail _ (.head _)))))).mpr h
 | [a,b,c,e,f]=>exact(zl (lw_h w K a b c e f 0 0 0 []) (.tail _ (.tail _ (.tail _ (.tail _ (.tail _ (.head _))))))).mpr h
 | [a,b,c,e,f,g]=>exact(zl (lw_h w K a b c e f g 0 0 []) (.tail _ (.tail _ (.tail _ (.tail _ (.tail _ (.tail _ (.head _)))))))).mpr h
 | [a,b,c,e,f,g,i]=>exact(zl (lw_h w K a b c e f g i 0 []) (.tail _ (.tail _ (.tail _ (.tail _ (.tail _ (.tail _ (.tail _ (.head _))))))))).mpr h
 |a::b::c::e::f::g::i::j::r=>exact(zl (lw_h w K a b c e f g i j r) (.tail _ (.tail _ (.tail _ (.tail _ (.tail _ (.tail _ (.tail _ (.tail _ (.head _)))))))))).mpr h
noncomputable def w8(n q:Nat)(V:List Int):List (List Int×Int):=(List.range n).foldl (fun L i=>L++vs1 n q i (V.getD i 0)) []
theorem vs1_len(n q i:Nat)(v:Int):(vs1 n q i v).length≤2:=by
 unfold vs1
 split
 ·exact Nat.le_refl 2
 ·exact Nat.le_succ 1
theorem pf_of{w:World}{J:St→Prop}{sc nu p wy:SV}{k:Int}{n q:Nat}{V:List Int}(hn:n=2∨n=3)(hV:V.length=n)(h0:∀v∈V,0<v)(hq:q∈[0,1,2,3])(hp:p.pure=true)(hw:wy.pure=true)(h:J (lwM p (.sint k) wy n V (zw (!zy w) (w8 n q V)) (some (.int (n-1:Nat))) none none [] [])):
  vc w (P38 w) 60 (.Ss ((yt.drop 9).take 4) yp (lwX sc nu p (.int k) wy n V q) (pfK J)):=by
 rcases hn with rfl|rfl
 ·obtain⟨a,b,rfl⟩:=len2 hV
  refine(zl (pf_2 w J sc nu p wy k a b) hq).mpr (sixC_of (votC_of (by decide) (h0 a (.head _)) (by decide) (votC_of (by decide) (h0 b (.tail _ (.head _))) ?_ ⟨⟨rfl,rfl,trivial⟩,⟨hp,rfl,hw,trivial⟩,h⟩)))
  exact Nat.le_trans (vs1_len ..) (by decide)
 ·obtain⟨a,b,c,rfl⟩:=len3 hV
  refine(zl (pf_3 w J sc nu p wy k a b c) hq).mpr (sixC_of (votC_of (by decide) (h0 a (.head _)) (by decide) (votC_of (by decide) (h0 b (.tail _ (.head _))) ?_ (votC_of (by decide) (h0 c (.tail _ (.tail _ (.head _)))) ?_ ⟨⟨rfl,rfl,trivial⟩,⟨hp,rfl,hw,trivial⟩,h⟩))))
  ·exact Nat.le_trans (vs1_len ..) (by decide)
  ·rw [List.nil_append,List.length_append]
   exact Nat.le_trans (Nat.add_le_add (vs1_len ..) (vs1_len ..)) (by decide)
theorem lookup_mapK{h:Str→SV→SV}{x:Str}{fs:List (Str×SV)}:(fs.map fun q=>(q.1,h q.1 q.2)).lookup x=(fs.lookup x).map (h x):=by
 induction fs with
 |nil=>rfl
 |cons q r ih=>
  rw [List.map_cons,List.lookup_cons,List.lookup_cons]
  cases c:x==q.1 with
  |true=>rw [eq_of_beq c];rfl
  |false=>exact ih
theorem pf_step{z:Z}{J:St→Prop}(r:Rep z)(h:pfK J .next z.st):∃z',Step z z'∧z'.s=z.s∧z'.ρ=z.ρ∧zK 9 12 lwKp J z'.st:=by
 obtain⟨f,e1,h⟩:=zr h
 obtain⟨x,e2,h⟩:=zr h
 obtain⟨p,e3,h⟩:=zr h
 obtain⟨g,e4,h⟩:=zr h
 obtain⟨o,w1⟩:=r.own 4 _ (yN e1)
 obtain⟨l1,⟨es,ep,d1,_,d3⟩,f1⟩:=w1.rel
 obtain⟨v,lv,q⟩:=f1.sub _ _ e2
 rcases yg 6 e3 r q with @⟨G,S,v1,p1⟩
 obtain⟨o2,w2⟩:=S.rep.own 4 _ (yN e4)
 obtain⟨l2,⟨es2,ep2,d1',d2',d3'⟩,f2⟩:=w2.rel
 obtain rfl:o2=o:=Option.some.inj (w2.hp.symm.trans w1.hp)
 obtain⟨rfl,_⟩:=Data.dict.inj (d1.symm.trans d1')
 have T:=S.rep.turn (i:=4) (so':= .ns "part" (g.2.map fun q=>(q.1,pfH p.1 q.1 q.2))) (s:=z.s) (yN e4) (fun _ _=>rfl) w2.hp (.ns ⟨es,ep2,d1',d2',d3'⟩ ⟨fun y sv e=> ?_,.inl rfl⟩) (.refl _)
 ·exact⟨_,S.trans T,rfl,rfl,h⟩
 ·rw [lookup_mapK]at e
  obtain⟨u,e5,rfl⟩:=Option.map_eq_some_iff.mp e
  obtain⟨v2,e6,q2⟩:=f2.sub y u e5
  unfold pfH
  cases c:y=="profile" with
  |true=>
   obtain rfl:=eq_of_beq c
   exact⟨v,(d3' _).symm.trans ((d3 _).trans lv),v1⟩
  |false=>
   cases y=="seats" with
   |true=>exact⟨v2,e6,q2.wk1⟩
   |false=>exact⟨v2,e6,q2⟩
theorem l13_f(w:World)(J:St→Prop)(p:Nat)(k c6:Int)(wy P:SV)(V:List Int):[2,3].map (fun n:Nat=>vc w (P40 w) 60 (.Ss [sAt yt 13] yp (lwM (.int p) (.sint k) wy n V P (some (.int c6)) none none [] []) (nxtK J)))=[2,3].map fun n:Nat=>mkT w mkF.1 (.rng 0 64) mkF.2.2 yp (lwM (.int p) (.sint k) wy n V P (some (.int c6)) none none [] []) (nxtK J):=by kernel_rfl
noncomputable def toldL(p:Nat)(vs:List (List Int×Int))(k:Int):List (List Int):=match p with
 |0=>y8 (thQ 0 "pav" vs) (zo k)
 |1=>y8 (thQ 0 "slav" vs) (zo k)
 |_=>zF vs (zo k)
noncomputable abbrev LwX:Type:=Nat×Nat×Nat×Str×Nat
theorem td_fin:∀x∈lwT,x.1∈[0,1,2]∧(match x.1 with
 |0=>(cpR 465 "pav").any (fun q=>q.2.2.1==x.2.2.2.1&&q.2.2.2.2==(x.2.2.1:Int))
 |1=>(cpR 473 "slav").any (fun q=>q.2.2.1==x.2.2.2.1&&q.2.2.2.2==(x.2.2.1:Int))
 |_=>caL.any fun q=>q.2==(x.2.2.1:Int))=true:=by decide+kernel
theorem cpR_ok(a:Nat)(s:Str):∀q∈cpR a s,q.1=a∧q.2.1=s:=by
 intro q h
 rcases h with _|⟨_,_|⟨_,_|⟨_,_|⟨_,_|⟨_,h⟩⟩⟩⟩⟩<;>first|exact⟨rfl,rfl⟩|cases h
theorem caL_ok2:∀q∈caL,q.1=486:=by decide+kernel
section
variable {w:World}{J:St→Prop}{x:LwX}{V:List Int}{vs:List (List Int×Int)}{c6:Int}{c7 c8:Option SV}{D L:List SV}
theorem cp_of{a:Nat}{s:Str}{n:Nat}{K:SV→Prop}(ha:∀q∈cpR a s,q∈cpL)(h:(cpR a s).any (fun q=>q.2.2.1==x.2.2.2.1&&q.2.2.2.2==(x.2.2.1:Int))=true)(hp:proOk vs)(k:∀zs,zs.Perm ((y8 (thQ 0 s vs) (zo x.2.2.1)).map (.vset (!zy w)))→K (.vlist zs)):zg (hdB (cpH w a) [zw (!zy w) vs,.sint x.2.2.1] [("algorithm",.str x.2.2.2.1)] st0) fun t=>t fun v _=>K v:=by
 obtain⟨q,hm,h⟩:=List.any_eq_true.mp h
 obtain⟨e1,e2⟩:=zx h
 have e1:=eq_of_beq e1
 have e2:=eq_of_beq e2
 obtain⟨e3,e4⟩:=cpR_ok a s q hm
 refine⟨q,vs,⟨ha q hm,e3,?_,?_,hp⟩,fun zs hz=>k zs ?_⟩
 ·rw [e2];rfl
 ·rw [e1]
 ·rw [e4,e2]at hz;exact hz
theorem td_of(hx:x∈lwT)(hp:proOk vs){n:Nat}(k:∀zs,zs.Perm ((toldL x.1 vs x.2.2.1).map (.vset (!zy w)))→J (lwTd [("told",.vlist zs)] (.int x.1) (.sint x.2.2.1) (.str x.2.2.2.1) n V (zw (!zy w) vs) c6 c7 c8 D L)):
  vc w (P40 w) 60 (.Ss [sAt yt 14] yp (lwMi 19 (.int x.1) (.sint x.2.2.1) (.str x.2.2.2.1) n V (zw (!zy w) vs) (some (.int c6)) c7 c8 D L) (nxtK J)):=by
 obtain⟨h1,h2⟩:=td_fin x hx
 refine(zl (td_f w J (.sint x.2.2.1) (.str x.2.2.2.1) (zw (!zy w) vs) n V c6 c7 c8 D L) h1).mpr ?_
 obtain⟨p,n',k',wy,q'⟩:=x
 rcases List.mem_cons.mp h1 with rfl|h1
 ·exact cp_of (x:=(0,n',k',wy,q')) (n:=n) (K:=fun v=>J (lwTd [("told",v)] _ _ _ n V _ c6 c7 c8 D L)) (fun q m=>List.mem_append_left _ m) h2 hp k
 rcases List.mem_cons.mp h1 with rfl|h1
 ·exact cp_of (x:=(1,n',k',wy,q')) (n:=n) (K:=fun v=>J (lwTd [("told",v)] _ _ _ n V _ c6 c7 c8 D L)) (fun q m=>List.mem_append_right _ m) h2 hp k
 obtain rfl:=List.mem_singleton.mp h1
 obtain⟨q,hm,h⟩:=List.any_eq_true.mp h2
 have e:=eq_of_beq h
 refine⟨q,vs,⟨hm,caL_ok2 q hm,?_,rfl,hp⟩,fun zs hz=>k zs ?_⟩
 ·rw [e];rfl
 ·rw [e]at hz;exact hz
end
noncomputable def setF(u:SV):List Int:=match u with
 | .vset _ l=>l
 |_=> []
noncomputable def k1234:List Int:=[1,2,3,4]
theorem coms_up:∀k∈k1234,(zo k).length≤20∧∀c∈zo k,c.Pairwise (· ≤·):=by decide+kernel
theorem lw_k:∀x∈lwT,((x.2.2.1:Nat):Int)∈k1234:=by decide+kernel
theorem told_sub{p:Nat}{vs:List (List Int×Int)}{k:Int}:(∀l∈toldL p vs k,l∈zo k)∧(toldL p vs k).length≤(zo k).length:=by
 unfold toldL
 split
 ·exact y2
 ·exact y2
 ·exact⟨fun l m=>y2.1 l (y2.1 l m),Nat.le_trans y2.2 y2.2⟩
section
variable {w:World}{J:St→Prop}{x:LwX}{V:List Int}{vs:List (List Int×Int)}{c6:Int}{c7 c8:Option SV}{L zs:List SV}{Dl T:List (List Int)}{p k wy P:SV}{n:Nat}
theorem sort_same{A B:List (List Int)}(h:A.Perm B)(ha:A.Pairwise (· ≤·))(hb:B.Pairwise (· ≤·)):A=B:=List.Perm.eq_of_pairwise (le:=(· ≤·)) (fun a b _ _ h1 h2=>List.le_antisymm h1 h2) ha hb h
theorem wkL_vlS(B:List (List Int)):(B.map vlS).map wkL=B.map vlS:=by
 rw [List.map_map]
 refine List.map_congr_left fun l _=>congrArg SV.vlist ?_
 rw [List.map_map];rfl
theorem l5_of(hz:zs.Perm (T.map (.vset (!zy w))))(hT:T.length≤20)(hs:∀c∈T,c.Pairwise (· ≤·))(hD:T.Perm Dl)(h:J (lwTe 28 [("told",.vlist zs)] p k wy n V P c6 c7 c8 L)):
  vc w (P40 w) 60 (.Ss [sAt yt 15] yp (lwTd [("told",.vlist zs)] p k wy n V P c6 c7 c8 (Dl.map comL) L) (nxtK J)):=by
 have hl:zs.length≤20:=by rw [hz.length_eq,List.length_map];exact hT
 have hm:∀u∈zs,∃c∈T,u= .vset (!zy w) c:=fun u m=>let⟨c,hc,e⟩:=List.mem_map.mp (hz.mem_iff.mp m);⟨c,hc,e.symm⟩
 obtain⟨m,e⟩:∃m,54=m+zs.length+20+1:=⟨33-zs.length,by omega⟩
 rw [l5_f,e]
 refine lc_run (F:=fun u=>vlS (setF u)) (nm:="committee") (l5S (lwTd [("told",.vlist zs)] p k wy n V P c6 c7 c8 (Dl.map comL) L)) (g:=hdG l5C.2.1) (by kernel_rfl) (by kernel_rfl) (fun _ _ _=>rfl) (fun m j u l X hu hl2 hX h=> ?_) (fun l=> ?_) m
 ·obtain⟨c,hc,rfl⟩:=hm u hu
  have T':(!zy w)=(!zy w)∧∀bs:List Int,bs.Perm c→bs.Pairwise (· ≤·)→zI (Nat.ble X.length sizeLine) (vc w (P40 w) (m+20) (.LC l5C.1 l5C.2.1 0 (.vlist zs) (j+1) 26 l5G (l5S (lwTd [("told",.vlist zs)] p k wy n V P c6 c7 c8 (Dl.map comL) L) [("committee",.vset (!zy w) c)] (X++[vlS bs])) (l5E w J))):=⟨rfl,fun bs h1 h2=>by
   obtain rfl:bs=c:=List.Perm.eq_of_pairwise (le:=(· ≤·)) (fun a b _ _ h1 h2=>Int.le_antisymm h1 h2) h2 (hs c hc) h1
   rw [Nat.ble_eq_true_of_le (Nat.le_trans hX (Nat.le_trans hl (sizeLine_eq▸by decide)))];exact h⟩
  rcases hl2 with rfl|⟨v,rfl⟩
  ·exact(zl (l5_t w _ _ (!zy w) c .non (.vlist zs) X m j) (.head _)).mpr T'
  ·exact(zl (l5_t w _ _ (!zy w) c v (.vlist zs) X m j) (.tail _ (.head _))).mpr T'
 ·have eB:zs.map (fun u=>vlS (setF u))=(zs.map setF).map vlS:=by rw [List.map_map];rfl
  have hB:(zs.map setF).Perm T:=by
   have:=hz.map setF
   rw [List.map_map]at this
   exact this.trans (List.Perm.of_eq (List.map_id T))
  rw [l5_e,eB,ze vlS_pure]
  refine⟨zs.map setF,⟨wkL_vlS _,by rw [List.length_map];exact Nat.lt_of_le_of_lt hl (by decide)⟩,fun C h1 h2=>⟨zC,Dl,⟨wkL_com _,?_⟩,fun C2 h3 h4=>⟨C,C2,⟨wkL_vlS _,wkL_vlS _⟩,?_⟩⟩⟩
  ·exact Nat.lt_of_le_of_lt (hD.length_eq▸hT) (by decide)
  ·obtain rfl:=sort_same ((h1.trans hB).trans (hD.trans h3.symm)) h2 h4
   exact⟨fun q=>(bne_iff_ne.mp q rfl).elim,fun _=>h⟩
end
noncomputable def dvCl(x:LwX):Dv:=((match Nat.beq x.2.1 2 with|true=>dv2L|false=>dv3L).find? fun q:Dv=>q.1==cmL.getD x.1 ""&&Nat.beq q.2.1 x.2.2.1).getD dvA2
theorem dv_fin:∀x∈lwT,((dvCl x∈dv2L∧x.2.1=2)∨(dvCl x∈dv3L∧x.2.1=3)∨((dvCl x==dvA2)=true∧x.2.1=2))∧(cmL.getD x.1 ""==(dvCl x).1)=true∧x.2.2.1=(dvCl x).2.1∧x.2.2.2.2∈[0,1,2,3]:=by decide+kernel
theorem cm_of{x:LwX}{V:List Int}(hx:x∈lwT)(hV:V.length=x.2.1):cmOk V (dvCl x):=by
 rcases(dv_fin x hx).1 with h|h|h
 ·exact .inl (.inl ⟨h.1,hV.trans h.2⟩)
 ·exact .inl (.inr ⟨h.1,hV.trans h.2⟩)
 ·exact .inr ⟨eq_of_beq h.1,hV.trans h.2⟩
structure Plain(x:LwX)(V:List Int):Prop where
 told:(toldL x.1 (w8 x.2.1 x.2.2.2.2 V) x.2.2.1).Perm (mkS x.1 x.2.1 x.2.2.1 V 64).1
 mem:(mkS x.1 x.2.1 x.2.2.1 V 64).2.elem (xc V (dvCl x)).1=true
 tie:(xc V (dvCl x)).2=decide (1<((mkS x.1 x.2.1 x.2.2.1 V 64).2.length:Int))
theorem lw_body:yt=yt.take 9++((yt.drop 9).take 4++([sAt yt 13]++([sAt yt 14]++([sAt yt 15]++([sAt yt 16,sAt yt 17]++yt.drop 18))))):=by kernel_rfl
theorem blk_fin:∀x∈niL,blk x.1 x.2∈xD∧(blk x.1 x.2).length≤3:=by decide+kernel
theorem ni_mem{n i:Nat}(hn:n=2∨n=3)(hi:i<n):(n,i)∈niL:=by
 rcases hn with rfl|rfl
 ·exact(by decide:∀i,i<2→(2,i)∈niL) i hi
 ·exact(by decide:∀i,i<3→(3,i)∈niL) i hi
theorem pro_of{n q:Nat}{V:List Int}(hn:n=2∨n=3)(hq:q∈[0,1,2,3])(hV:V.length=n)(h:∀v∈V,1≤v∧v≤12):proOk (w8 n q V):=by
 have hl:∀i v,(vs1 n q i v).length≤1+(match Nat.beq q i with|true=>1|false=>0)∧1≤(vs1 n q i v).length:=fun i v=>by
  unfold vs1
  cases decide (1<v)with
  |false=>exact⟨Nat.le_add_right ..,Nat.le_refl _⟩
  |true=>cases Nat.beq q i with
   |true=>exact⟨Nat.le_refl 2,Nat.le_succ 1⟩
   |false=>exact⟨Nat.le_refl 1,Nat.le_refl 1⟩
 have hm:∀i,i<n→∀v∈vs1 n q i (V.getD i 0),v.1∈xD∧v.2.natAbs<2^64∧0≤v.2∧v.1.length≤3:=fun i hi v m=>by
  obtain⟨b1,b2⟩:=blk_fin _ (ni_mem hn hi)
  obtain⟨v1,v2⟩:=h (V.getD i 0) (List.mem_of_getElem? (zN (hV.symm▸hi)))
  have ok:∀u:Int,0≤u→u≤12→(blk n i)∈xD∧u.natAbs<2^64∧0≤u∧(blk n i).length≤3:=fun u h0 h1=>⟨b1,by omega,h0,b2⟩
  unfold vs1 at m
  cases c:decide (1<V.getD i 0) &&Nat.beq q i with
  |true=>
   rw [c]at m
   rcases List.mem_cons.mp m with rfl|m
   ·exact ok 1 (by decide) (by decide)
   ·obtain rfl:=List.mem_singleton.mp m
    exact ok _ (Int.sub_nonneg_of_le v1) (Int.le_trans (Int.sub_le_self _ (by decide)) v2)
  |false=>
   rw [c]at m
   obtain rfl:=List.mem_singleton.mp m
   exact ok _ (by rw [Int.sub_zero];exact Int.le_trans (by decide) v1) (by rw [Int.sub_zero];exact v2)
 unfold proOk w8
 rcases hn with rfl|rfl
 ·have h0:=hl 0 (V.getD 0 0)
  have h1:=hl 1 (V.getD 1 0)
  refine⟨fun v m=> ?_,?_,?_⟩
  ·rcases List.mem_append.mp m with m|m
   ·exact hm 0 (by decide) v m
   ·exact hm 1 (by decide) v m
  ·show(([]++vs1 2 q 0 (V.getD 0 0))++vs1 2 q 1 (V.getD 1 0)).length≤4
   rw [List.nil_append,List.length_append]
   refine Nat.le_trans (Nat.add_le_add h0.1 h1.1) ?_
   exact(by decide:∀q∈[0,1,2,3],1+(match Nat.beq q 0 with|true=>1|false=>0)+(1+(match Nat.beq q 1 with|true=>1|false=>0))≤4) q hq
  ·show(([]++vs1 2 q 0 (V.getD 0 0))++vs1 2 q 1 (V.getD 1 0)).length≠0
   rw [List.nil_append,List.length_append]
   exact Nat.ne_of_gt (Nat.lt_of_lt_of_le h0.2 (Nat.le_add_right ..))
 ·have h0:=hl 0 (V.getD 0 0)
  have h1:=hl 1 (V.getD 1 0)
  have h2:=hl 2 (V.getD 2 0)
  refine⟨fun v m=> ?_,?_,?_⟩
  ·rcases List.mem_append.mp m with m|m
   ·rcases List.mem_append.mp m with m|m
    ·exact hm 0 (by decide) v m
    ·exact hm 1 (by decide) v m
   ·exact hm 2 (by decide) v m
  ·show((([]++vs1 3 q 0 (V.getD 0 0))++vs1 3 q 1 (V.getD 1 0))++vs1 3 q 2 (V.getD 2 0)).length≤4
   rw [List.nil_append,List.length_append,List.length_append]
   refine Nat.le_trans (Nat.add_le_add (Nat.add_le_add h0.1 h1.1) h2.1) ?_
   exact(by decide:∀q∈[0,1,2,3],1+(match Nat.beq q 0 with|true=>1|false=>0)+(1+(match Nat.beq q 1 with|true=>1|false=>0))+(1+(match Nat.beq q 2 with|true=>1|false=>0))≤4) q hq
  ·show((([]++vs1 3 q 0 (V.getD 0 0))++vs1 3 q 1 (V.getD 1 0))++vs1 3 q 2 (V.getD 2 0)).length≠0
   rw [List.nil_append,List.length_append,List.length_append]
   exact Nat.ne_of_gt (Nat.lt_of_lt_of_le h0.2 (Nat.le_trans (Nat.le_add_right ..) (Nat.le_add_right ..)))
theorem lwV_ok(ns:List Int)(n:Nat):(lwV ns n).length=n∧∀v∈lwV ns n,1≤v∧v≤12:=by
 refine⟨(List.length_map ..).trans List.length_range,fun v m=> ?_⟩
 obtain⟨i,_,rfl⟩:=List.mem_map.mp m
 have h1:=Int.fmod_nonneg_of_pos (absI (ns.getD (3+i) 0)) (show(0:Int)<12 by decide)
 have h2:=Int.fmod_lt_of_pos (absI (ns.getD (3+i) 0)) (show(0:Int)<12 by decide)
 omega
noncomputable def dd(n:Nat)(k:Int)(m:Nat):List (List Nat):=(List.range m).foldl (fun L j=>match((zR j).length:Int)==k with
 |true=>(match L.elem (zi n (zR j))with
  |true=>L
  |false=>L++[zi n (zR j)])
 |false=>L) []
noncomputable abbrev castL(s:List Nat):List Int:=s.map fun i:Nat=>(i:Int)
theorem castL_inj{a b:List Nat}(h:castL a=castL b):a=b:=List.map_inj_right (fun _ _ h=>Int.ofNat.inj h)|>.mp h
section
variable {p n:Nat}{k:Int}{V:List Int}
theorem mkS_is(m:Nat):(mkS p n k V m).1=((List.range m).map zR).filter (fun l=>(l.length:Int)==k&&ltB (zX p V (zi n l)))∧(mkS p n k V m).2=((dd n k m).filter fun s=>ltB (zX p V s)).map castL:=by
 induction m with
 |zero=>exact⟨rfl,rfl⟩
 |succ m ih=>
  have e:dd n k (m+1)=(match((zR m).length:Int)==k with
   |true=>(match(dd n k m).elem (zi n (zR m))with
    |true=>dd n k m
    |false=>dd n k m++[zi n (zR m)])
   |false=>dd n k m):=by
   unfold dd
   rw [List.range_succ,List.foldl_append];rfl
  rw [mkS_succ,List.range_succ,List.map_append,List.filter_append,←ih.1,e]
  unfold yQ
  rw [List.map_cons,List.map_nil,List.filter_cons]
  cases ((zR m).length:Int)==k with
  |false=>exact⟨(List.append_nil _).symm,ih.2⟩
  |true=>
   cases c:ltB (zX p V (zi n (zR m)))with
   |false=>
    refine⟨(List.append_nil _).symm,ih.2.trans ?_⟩
    cases (dd n k m).elem (zi n (zR m))with
    |true=>rfl
    |false=>
     show _=((dd n k m++[zi n (zR m)]).filter _).map castL
     rw [List.filter_append,List.filter_cons,c]
     exact congrArg (List.map castL) (List.append_nil _).symm
   |true=>
    refine⟨rfl,?_⟩
    have e2:(mkS p n k V m).2.elem (yC n (zR m))=(dd n k m).elem (zi n (zR m)):=by
     rw [ih.2]
     refine Bool.eq_iff_iff.mpr (List.elem_iff.trans (Iff.trans ⟨fun h=> ?_,fun h=> ?_⟩ List.elem_iff.symm))
     ·obtain⟨s,hs,e⟩:=List.mem_map.mp h
      exact castL_inj e▸(List.mem_filter.mp hs).1
     ·exact List.mem_map.mpr ⟨_,List.mem_filter.mpr ⟨h,c⟩,rfl⟩
    show(match(mkS p n k V m).2.elem (yC n (zR m))with|true=>(mkS p n k V m).2|false=>(mkS p n k V m).2++[yC n (zR m)])=_
    rw [e2]
    cases (dd n k m).elem (zi n (zR m))with
    |true=>exact ih.2
    |false=>
     show _=((dd n k m++[zi n (zR m)]).filter _).map castL
     rw [List.filter_append,List.filter_cons,c,List.map_append,←ih.2];rfl
end
noncomputable def sT(i:Nat):Str:=match i with
 |0=>"pav"
 |1=>"slav"
 |2=>"adams"
 |_=>"cc"
noncomputable def cT(i:Nat):Int:=match i with
 |0=>12
 |1=>105
 |2=>6
 |_=>1
noncomputable def hN(i:Nat):List Nat:=match i with
 |0=> [0,12,18,22,25]
 |1=> [0,105,140,161,176]
 |2=> [0,6,12,15,17]
 |_=> [0,1,1,1,1]
noncomputable def hQ(s:Str):Nat→Rat
 |0=>0
 |m+1=>hQ s m+fQ s ((m:Int)+1)
theorem addV_eq(s:Str)(v:Int)(q:Rat)(m:Nat):xC s v m q=q+hQ s m*v:=by
 induction m with
 |zero=>show q=q+0*(v:Rat);rw [Rat.zero_mul,Rat.add_zero]
 |succ m ih=>
  show xC s v m q+fQ s ((m:Int)+1)*v=q+(hQ s m+fQ s ((m:Int)+1))*v
  rw [ih,Rat.add_mul,Rat.add_assoc]
theorem hQ_fin:∀i∈[0,1,2,3],∀m∈[0,1,2,3,4],hQ (sT i) m*(cT i:Rat)=((((hN i).getD m 0:Nat):Int):Rat):=by decide+kernel
noncomputable def scL(i:Nat)(vs:List (List Int×Int))(l:List Int):Int:=(vs.map fun v=>v.2*(((hN i).getD (zP l v.1).length 0:Nat):Int)).sum
section
variable {i:Nat}{l l':List Int}
theorem le4{m:Nat}(h:m≤4):m∈[0,1,2,3,4]:=(by decide:∀m,m<5→m∈[0,1,2,3,4]) m (Nat.lt_succ_of_le h)
theorem thQ_sc(hi:i∈[0,1,2,3])(hl:smallL l)(vs:List (List Int×Int)):∀q:Rat,thQ q (sT i) vs l*(cT i:Rat)=q*(cT i:Rat)+((scL i vs l:Int):Rat):=by
 induction vs with
 |nil=>exact fun q=>(Rat.add_zero _).symm
 |cons v vs ih=>
  intro q
  refine(ih (xC (sT i) v.2 (zP l v.1).length q)).trans ?_
  show _=q*(cT i:Rat)+((v.2*(((hN i).getD (zP l v.1).length 0:Nat):Int)+scL i vs l:Int):Rat)
  rw [addV_eq,Rat.add_mul,Rat.intCast_add,Rat.intCast_mul,←hQ_fin i hi _ (le4 (xS hl)),Rat.add_assoc,Rat.mul_assoc (hQ _ _),Rat.mul_comm (hQ _ _),Rat.mul_assoc,Rat.mul_comm (cT i:Rat)]
theorem cT_pos:∀i∈[0,1,2,3],(0:Rat)<(cT i:Rat):=by decide+kernel
theorem thQ_le(hi:i∈[0,1,2,3])(hl:smallL l)(hl':smallL l')(vs:List (List Int×Int)):thQ 0 (sT i) vs l'≤thQ 0 (sT i) vs l↔scL i vs l'≤scL i vs l:=by
 have hc:=cT_pos i hi
 have h1:=thQ_sc hi hl vs 0
 have h2:=thQ_sc hi hl' vs 0
 rw [Rat.zero_mul,Rat.zero_add]at h1 h2
 rw [←Rat.intCast_le_intCast,←h1,←h2]
 exact⟨fun h=>Rat.mul_le_mul_of_nonneg_right h (Rat.le_of_lt hc),fun h=>Rat.le_of_mul_le_mul_right h hc⟩
end
noncomputable def svs(n k:Nat):List (List Nat):=match n,k with
 |2,1=> [[1,0],[0,1]]
 |2,2=> [[2,0],[1,1],[0,2]]
 |2,3=> [[3,0],[2,1],[1,2],[0,3]]
 |2,_=> [[3,1],[2,2],[1,3]]
 |_,1=> [[1,0,0],[0,1,0],[0,0,1]]
 |_,_=> [[2,0,0],[1,1,0],[0,2,0],[1,0,1],[0,1,1],[0,0,2]]
theorem sv_fin:∀x∈lwT,dd x.2.1 x.2.2.1 64=svs x.2.1 x.2.2.1∧(((List.range 64).map zR).filter (fun l=>(l.length:Int)==(x.2.2.1:Int))).isPerm (zo x.2.2.1)=true∧((svs x.2.1 x.2.2.1).all fun S=>(zo x.2.2.1).any fun l=>zi x.2.1 l==S)=true∧
 ∀l∈zo x.2.2.1,zi x.2.1 l∈svs x.2.1 x.2.2.1∧l∈xD∧∀j∈List.range x.2.1,(zP l (blk x.2.1 j)).length=(zi x.2.1 l).getD j 0:=by decide+kernel
noncomputable def scN(h:List Nat):List Nat→List Nat→Nat
 |v::V,s::S=>Nat.add (Nat.mul v (h.getD s 0)) (scN h V S)
 |_,_=>0
noncomputable def bN(i n k:Nat)(V S:List Nat):Bool:=(svs n k).all fun S'=>Nat.ble (scN (hN i) V S') (scN (hN i) V S)
noncomputable def bB(p n k:Nat)(V S:List Nat):Bool:=match p with
 |2=>bN 3 n k V S&&(svs n k).all fun S'=> !(bN 3 n k V S')||Nat.ble (scN (hN 2) V S') (scN (hN 2) V S)
 |p=>bN p n k V S
noncomputable def shN(p:Nat):List Nat:=match p with
 |0=> [12,6,4,3]
 |1=> [105,35,21,15]
 |_=> [0,6,3,2]
noncomputable def ltQ(x y:Nat):Bool:= !(Nat.blt 0 y&&(Nat.beq x 0||Nat.blt y x))
noncomputable def ltN(p:Nat)(V s:List Nat):Bool:=(List.range s.length).all fun i=>(List.range s.length).all fun j=>(Nat.beq i j||Nat.beq (s.getD j 0) 0)||ltQ (Nat.mul (V.getD i 0) ((shN p).getD (s.getD i 0) 0)) (Nat.mul (V.getD j 0) ((shN p).getD (s.getD j 0-1) 0))
theorem yF(l:List Nat)(i:Nat):(castL l).getD i 0=((l.getD i 0:Nat):Int):=by
 rw [List.getD_eq_getElem?_getD,List.getD_eq_getElem?_getD,List.getElem?_map]
 cases l[i]? <;>rfl
theorem dlt(a b:Nat):decide ((a:Int)<(b:Int))=Nat.blt a b:=Bool.eq_iff_iff.mpr (decide_eq_true_iff.trans (Int.ofNat_lt.trans (iff_of_eq Nat.blt_eq).symm))
theorem ltB_all(l:List ((Int×Int)×(Int×Int))):ltB l=l.all fun x=> !(decide (0<x.2.1*x.2.2) &&(x.1.1*x.1.2==0||decide (x.2.1*x.2.2<x.1.1*x.1.2))):=by
 induction l with
 |nil=>rfl
 |cons x r ih=>
  show(match decide (0<x.2.1*x.2.2) &&(x.1.1*x.1.2==0||decide (x.2.1*x.2.2<x.1.1*x.1.2))with|true=>false|false=>ltB r)=(!(decide (0<x.2.1*x.2.2) &&(x.1.1*x.1.2==0||decide (x.2.1*x.2.2<x.1.1*x.1.2))) &&r.all _)
  rw [←ih]
  cases decide (0<x.2.1*x.2.2) &&(x.1.1*x.1.2==0||decide (x.2.1*x.2.2<x.1.1*x.1.2))<;>rfl
theorem lt_is{p:Nat}(hp:p∈[0,1,2])(V s:List Nat):ltB (zX p (castL V) s)=ltN p V s:=by
 have hs:xY.getD p []=castL (shN p):=by
  rcases List.mem_cons.mp hp with rfl|hp
  ·rfl
  rcases List.mem_cons.mp hp with rfl|hp
  ·rfl
  obtain rfl:=List.mem_singleton.mp hp
  rfl
 rw [ltB_all]
 unfold zX ltN
 rw [List.all_flatMap]
 refine congrArg (fun f=>(List.range s.length).all f) (funext fun i=> ?_)
 rw [List.all_filterMap]
 refine congrArg (fun f=>(List.range s.length).all f) (funext fun j=> ?_)
 cases Nat.beq i j||Nat.beq (s.getD j 0) 0 with
 |true=>rfl
 |false=>
  show(!(decide (0<(castL V).getD j 0*(xY.getD p []).getD (s.getD j 0-1) 0) &&((castL V).getD i 0*(xY.getD p []).getD (s.getD i 0) 0==0||decide ((castL V).getD j 0*(xY.getD p []).getD (s.getD j 0-1) 0<(castL V).getD i 0*(xY.getD p []).getD (s.getD i 0) 0))))=(false||ltQ _ _)
  rw [hs,yF,yF,yF,yF,←Int.natCast_mul,←Int.natCast_mul,dlt]
  rw [show decide ((0:Int)<((V.getD j 0*(shN p).getD (s.getD j 0-1) 0:Nat):Int))=Nat.blt 0 (V.getD j 0*(shN p).getD (s.getD j 0-1) 0)from dlt 0 _]
  rw [show(((V.getD i 0*(shN p).getD (s.getD i 0) 0:Nat):Int)==0)=Nat.beq (V.getD i 0*(shN p).getD (s.getD i 0) 0) 0 from Bool.eq_iff_iff.mpr (beq_iff_eq.trans (Int.natCast_eq_zero.trans (iff_of_eq Nat.beq_eq).symm))]
  rfl
theorem scL_app(i:Nat)(a b:List (List Int×Int))(l:List Int):scL i (a++b) l=scL i a l+scL i b l:=by
 unfold scL
 rw [List.map_append,List.sum_append]
theorem sc_vs1(i n q j:Nat)(v:Int)(l:List Int):scL i (vs1 n q j v) l=v*(((hN i).getD (zP l (blk n j)).length 0:Nat):Int):=by
 unfold vs1
 generalize hh:(((hN i).getD (zP l (blk n j)).length 0:Nat):Int)=h
 cases decide (1<v) &&Nat.beq q j with
 |true=>
  show 1*_+((v-1)*_+0)=v*h
  rw [hh,Int.add_zero,←Int.add_mul,Int.add_comm,Int.sub_add_cancel]
 |false=>
  show(v-0)*_+0=v*h
  rw [hh,Int.add_zero,Int.sub_zero]
theorem sc_vs{i n q:Nat}{V:List Nat}{l:List Int}(hn:n=2∨n=3)(hV:V.length=n)(hl:∀j∈List.range n,(zP l (blk n j)).length=(zi n l).getD j 0):scL i (w8 n q (castL V)) l=((scN (hN i) V (zi n l):Nat):Int):=by
 rcases hn with rfl|rfl
 ·obtain⟨a,b,rfl⟩:=len2 hV
  show scL i (([]++vs1 2 q 0 a)++vs1 2 q 1 b) l=((a*(hN i).getD ((zi 2 l).getD 0 0) 0+(b*(hN i).getD ((zi 2 l).getD 1 0) 0+0):Nat):Int)
  rw [List.nil_append,scL_app,sc_vs1,sc_vs1,hl 0 (by decide),hl 1 (by decide),Nat.add_zero,Int.natCast_add,Int.natCast_mul,Int.natCast_mul]
 ·obtain⟨a,b,c,rfl⟩:=len3 hV
  show scL i ((([]++vs1 3 q 0 a)++vs1 3 q 1 b)++vs1 3 q 2 c) l=((a*(hN i).getD ((zi 3 l).getD 0 0) 0+(b*(hN i).getD ((zi 3 l).getD 1 0) 0+(c*(hN i).getD ((zi 3 l).getD 2 0) 0+0)):Nat):Int)
  rw [List.nil_append,scL_app,scL_app,sc_vs1,sc_vs1,sc_vs1,hl 0 (by decide),hl 1 (by decide),hl 2 (by decide),Nat.add_zero,Int.natCast_add,Int.natCast_add,Int.natCast_mul,Int.natCast_mul,Int.natCast_mul,Int.add_assoc]
section
variable {x:LwX}{V:List Nat}{i:Nat}
theorem best_eq(hx:x∈lwT)(hi:i∈[0,1,2,3])(hV:V.length=x.2.1){l:List Int}(hl:l∈zo x.2.2.1)(C:List (List Int))(hC:∀l∈C,l∈zo x.2.2.1)(f:List Nat→Bool)(hf:∀l∈zo x.2.2.1,l∈C↔f (zi x.2.1 l)=true):
  decide (∀l'∈C,thQ 0 (sT i) (w8 x.2.1 x.2.2.2.2 (castL V)) l'≤thQ 0 (sT i) (w8 x.2.1 x.2.2.2.2 (castL V)) l)=(svs x.2.1 x.2.2.1).all fun S'=> !(f S')||Nat.ble (scN (hN i) V S') (scN (hN i) V (zi x.2.1 l)):=by
 obtain⟨_,_,h3,h4⟩:=sv_fin x hx
 have hn:=(mk_fin x hx).1
 have le:∀l'∈zo x.2.2.1,thQ 0 (sT i) (w8 x.2.1 x.2.2.2.2 (castL V)) l'≤thQ 0 (sT i) (w8 x.2.1 x.2.2.2.2 (castL V)) l↔Nat.ble (scN (hN i) V (zi x.2.1 l')) (scN (hN i) V (zi x.2.1 l))=true:=fun l' hl'=>by
  obtain⟨_,a2,a3⟩:=h4 l hl
  obtain⟨_,b2,b3⟩:=h4 l' hl'
  rw [thQ_le hi a2 b2,sc_vs hn hV a3,sc_vs hn hV b3]
  exact Int.ofNat_le.trans (iff_of_eq Nat.ble_eq).symm
 refine Bool.eq_iff_iff.mpr (decide_eq_true_iff.trans ⟨fun h=>List.all_eq_true.mpr fun S hS=> ?_,fun h l' hl'=> ?_⟩)
 ·obtain⟨l',hl',e⟩:=List.any_eq_true.mp (List.all_eq_true.mp h3 S hS)
  obtain rfl:=eq_of_beq e
  cases c:f (zi x.2.1 l')with
  |false=>rfl
  |true=>exact(le l' hl').mp (h l' ((hf l' hl').mpr c))
 ·have:=List.all_eq_true.mp h _ (h4 l' (hC l' hl')).1
  rw [(hf l' (hC l' hl')).mp hl']at this
  exact(le l' (hC l' hl')).mpr this
theorem best_b(hx:x∈lwT)(hi:i∈[0,1,2,3])(hV:V.length=x.2.1):y8 (thQ 0 (sT i) (w8 x.2.1 x.2.2.2.2 (castL V))) (zo x.2.2.1)=(zo x.2.2.1).filter fun l=>bN i x.2.1 x.2.2.1 V (zi x.2.1 l):=
 List.filter_congr fun l hl=>best_eq hx hi hV hl _ (fun _ h=>h) (fun _=>true) fun l hl=>⟨fun _=>rfl,fun _=>hl⟩
theorem told_is(hx:x∈lwT)(hV:V.length=x.2.1):toldL x.1 (w8 x.2.1 x.2.2.2.2 (castL V)) x.2.2.1=(zo x.2.2.1).filter fun l=>bB x.1 x.2.1 x.2.2.1 V (zi x.2.1 l):=by
 have h1:=(td_fin x hx).1
 obtain⟨p,n,k,wy,q⟩:=x
 rcases List.mem_cons.mp h1 with rfl|h1
 ·exact best_b (i:=0) hx (by decide) hV
 rcases List.mem_cons.mp h1 with rfl|h1
 ·exact best_b (i:=1) hx (by decide) hV
 obtain rfl:=List.mem_singleton.mp h1
 show y8 (thQ 0 (sT 2) (w8 n q (castL V))) (y8 (thQ 0 (sT 3) (w8 n q (castL V))) (zo k))=_
 rw [best_b (i:=3) hx (by decide) hV]
 show List.filter _ (List.filter _ _)=_
 rw [List.filter_filter]
 refine List.filter_congr fun l hl=> ?_
 rw [best_eq (i:=2) hx (by decide) hV hl _ (fun l m=>(List.mem_filter.mp m).1) (bN 3 n k V) fun l hl=>⟨fun m=>(List.mem_filter.mp m).2,fun e=>List.mem_filter.mpr ⟨hl,e⟩⟩]
 exact Bool.and_comm _ _
end
noncomputable def insN(x:Nat):List Nat→List Nat
 | []=> [x]
 |y::r=>match Nat.ble x y with
  |true=>x::y::r
  |false=>y::insN x r
noncomputable def isrtN(l:List Nat):List Nat:=l.foldr insN []
noncomputable def esN(p:Dv):List Nat:=p.2.2.2.2.map fun d=>p.2.2.2.1.toNat/d.toNat
noncomputable def wsN(V:List Nat)(p:Dv):List (List Nat):=V.map fun v=>(esN p).map (Nat.mul v)
noncomputable def dmN(V:List Nat)(p:Dv):Nat:=(isrtN (wsN V p).flatten).getD ((wsN V p).flatten.length-p.2.1+V.length*p.2.2.1.toNat) 0
noncomputable def rN(V:List Nat)(p:Dv):List Nat:=(wsN V p).map fun w=>p.2.2.1.toNat+(w.filter fun a=>Nat.blt (dmN V p) a).length
noncomputable def stepN(k m:Nat)(ws:List (List Nat))(x:List Nat×Bool)(i:Nat):List Nat×Bool:=
 (match Nat.blt x.1.sum k&&(ws.getD i []).any fun a=>Nat.beq a m with
  |true=>x.1.set i (x.1.getD i 0+1)
  |false=>x.1,x.2||(Nat.beq x.1.sum k&&(ws.getD i []).any fun a=>Nat.beq a m))
noncomputable def xN(V:List Nat)(p:Dv)(n:Nat):List Nat×Bool:=(List.range n).foldl (stepN p.2.1 (dmN V p) (wsN V p)) (rN V p,false)
noncomputable def divN(V:List Nat)(p:Dv):List Nat×Bool:=match Nat.blt (rN V p).sum p.2.1 with
 |true=>xN V p V.length
 |false=>(rN V p,false)
theorem dle(a b:Nat):decide ((a:Int)≤(b:Int))=Nat.ble a b:=Bool.eq_iff_iff.mpr (decide_eq_true_iff.trans (Int.ofNat_le.trans (iff_of_eq Nat.ble_eq).symm))
theorem deq(a b:Nat):((a:Int)==(b:Int))=Nat.beq a b:=Bool.eq_iff_iff.mpr (beq_iff_eq.trans (Int.ofNat_inj.trans (iff_of_eq Nat.beq_eq).symm))
theorem ins_cast(x:Nat)(l:List Nat):insI x (castL l)=castL (insN x l):=by
 induction l with
 |nil=>rfl
 |cons y r ih=>
  show(match decide ((x:Int)≤(y:Int))with|true=>_|false=>_::insI x (castL r))=castL (match Nat.ble x y with|true=>_|false=>_)
  rw [ih,dle]
  cases Nat.ble x y<;>rfl
theorem isrt_cast(l:List Nat):isrt (castL l)=castL (isrtN l):=by
 induction l with
 |nil=>rfl
 |cons y r ih=>
  show insI y (isrt (castL r))=castL (insN y (isrtN r))
  rw [ih,ins_cast]
theorem sum_cast(l:List Nat):(castL l).sum=(l.sum:Int):=by
 induction l with
 |nil=>rfl
 |cons y r ih=>show(y:Int)+(castL r).sum=((y+r.sum:Nat):Int);rw [ih];rfl
theorem es_fin:∀p∈dvA2::(dv2L++dv3L),p.2.2.1=(p.2.2.1.toNat:Int)∧∀d∈p.2.2.2.2,d≠0∧p.2.2.2.1=((p.2.2.2.1.toNat/d.toNat:Nat):Int)*d:=by decide+kernel
section
variable {p:Dv}(hp:p∈dvA2::(dv2L++dv3L))(V:List Nat)
include hp
theorem wt_cast(v:Nat):wtF p.2.2.2.1 p.2.2.2.2 v=castL ((esN p).map (Nat.mul v)):=by
 unfold wtF esN castL
 rw [List.map_map,List.map_map]
 refine List.map_congr_left fun d hd=> ?_
 obtain⟨h1,h2⟩:=(es_fin p hp).2 d hd
 show((v:Int)*1*p.2.2.2.1).fdiv d=((v*(p.2.2.2.1.toNat/d.toNat):Nat):Int)
 rw [Int.mul_one,congrArg ((v:Int)* ·) h2,←Int.mul_assoc,Int.mul_fdiv_cancel _ h1,Int.natCast_mul]
theorem ws_cast:wz (castL V) p=(wsN V p).map castL:=by
 unfold wz wsN castL
 rw [List.map_map,List.map_map]
 exact List.map_congr_left fun v _=>wt_cast hp v
theorem m_cast:dvM (castL V) p=dmN V p:=by
 unfold dvM dmN
 rw [ws_cast hp,show((wsN V p).map castL).flatten=castL (wsN V p).flatten from(List.map_flatten ..).symm,isrt_cast,yF,List.length_map,List.length_map]
theorem r_cast:dvR (castL V) p=castL (rN V p):=by
 unfold dvR rN wsN castL
 rw [List.map_map,List.map_map,List.map_map]
 refine List.map_congr_left fun v _=> ?_
 show p.2.2.1+(((wtF p.2.2.2.1 p.2.2.2.2 v).filter fun a=>decide (dvM (castL V) p<a)).length:Int)=((p.2.2.1.toNat+(((esN p).map (Nat.mul v)).filter fun a=>Nat.blt (dmN V p) a).length:Nat):Int)
 rw [wt_cast hp,m_cast hp,List.filter_map,List.length_map,Int.natCast_add,←(es_fin p hp).1]
 exact congrArg (fun f=>p.2.2.1+((((esN p).map (Nat.mul v)).filter f).length:Int)) (funext fun a=>dlt _ a)
theorem step_cast(x:List Nat×Bool)(i:Nat):wW p.2.1 (dvM (castL V) p) (wz (castL V) p) (castL x.1,x.2) i=(castL (stepN p.2.1 (dmN V p) (wsN V p) x i).1,(stepN p.2.1 (dmN V p) (wsN V p) x i).2):=by
 have hit:(((wz (castL V) p).getD i []).any fun a=>a==dvM (castL V) p)=(((wsN V p).getD i []).any fun a=>Nat.beq a (dmN V p)):=by
  rw [ws_cast hp,m_cast hp,List.getD_eq_getElem?_getD,List.getD_eq_getElem?_getD,List.getElem?_map]
  cases (wsN V p)[i]? with
  |none=>rfl
  |some w=>exact(List.any_map ..).trans (congrArg (fun f=>w.any f) (funext fun a=>deq a _))
 unfold wW stepN
 rw [hit,sum_cast,dlt,deq]
 refine Prod.ext ?_ rfl
 cases Nat.blt x.1.sum p.2.1&&((wsN V p).getD i []).any fun a=>Nat.beq a (dmN V p)with
 |false=>rfl
 |true=>
  show(castL x.1).set i ((castL x.1).getD i 0+1)=castL (x.1.set i (x.1.getD i 0+1))
  rw [yF]
  exact(List.map_set (f:=fun i:Nat=>(i:Int))).symm
theorem x_cast(n:Nat):dvX (castL V) p n=(castL (xN V p n).1,(xN V p n).2):=by
 induction n with
 |zero=>exact Prod.ext (r_cast hp V) rfl
 |succ n ih=>
  rw [xd,ih,step_cast hp]
  unfold xN
  rw [List.range_succ,List.foldl_append];rfl
theorem div_cast:xc (castL V) p=(castL (divN V p).1,(divN V p).2):=by
 unfold xc divN
 rw [r_cast hp,sum_cast,dlt,x_cast hp,List.length_map]
 cases Nat.blt (rN V p).sum p.2.1<;>rfl
end
noncomputable def chk(p n k:Nat)(V:List Nat):Bool:=((svs n k).all fun S=>bB p n k V S==ltN p V S) &&(((svs n k).filter (ltN p V)).elem (divN V (dvCl (p,n,k,"",0))).1&&((divN V (dvCl (p,n,k,"",0))).2==Nat.blt 1 ((svs n k).filter (ltN p V)).length))
noncomputable def dom:List Nat:=(List.range 12).map Nat.succ
noncomputable def pk2:List (Nat×Nat):=[(0,1),(0,2),(0,3),(1,1),(1,2),(1,3),(2,2),(2,3),(2,4)]
theorem chk_2:(pk2.all fun c=>dom.all fun a=>dom.all fun b=>chk c.1 2 c.2 [a,b])=true:=by decide+kernel
theorem chk_30:([1,2].all fun k=>dom.all fun a=>dom.all fun b=>dom.all fun c=>chk 0 3 k [a,b,c])=true:=by decide+kernel
theorem chk_31:([1,2].all fun k=>dom.all fun a=>dom.all fun b=>dom.all fun c=>chk 1 3 k [a,b,c])=true:=by decide+kernel
theorem pk_fin:∀x∈lwT,(x.2.1=2∧(x.1,x.2.2.1)∈pk2)∨(x.2.1=3∧x.2.2.1∈[1,2]∧(x.1=0∨x.1=1)):=by decide+kernel
theorem chk_of{x:LwX}{V:List Nat}(hx:x∈lwT)(hV:V.length=x.2.1)(hd:∀v∈V,v∈dom):chk x.1 x.2.1 x.2.2.1 V=true:=by
 rcases pk_fin x hx with⟨h1,h2⟩|⟨h1,h2,h3⟩
 ·rw [h1]at hV⊢
  obtain⟨a,b,rfl⟩:=len2 hV
  exact List.all_eq_true.mp (List.all_eq_true.mp (List.all_eq_true.mp chk_2 _ h2) a (hd a (.head _))) b (hd b (.tail _ (.head _)))
 ·rw [h1]at hV⊢
  obtain⟨a,b,c,rfl⟩:=len3 hV
  have go:∀{f:Nat→Nat→Nat→Nat→Bool},([1,2].all fun k=>dom.all fun a=>dom.all fun b=>dom.all fun c=>f k a b c)=true→f x.2.2.1 a b c=true:=fun h=>List.all_eq_true.mp (List.all_eq_true.mp (List.all_eq_true.mp (List.all_eq_true.mp h _ h2) a (hd a (.head _))) b (hd b (.tail _ (.head _)))) c (hd c (.tail _ (.tail _ (.head _))))
  rcases h3 with e|e
  ·rw [e];exact go chk_30
  ·rw [e];exact go chk_31
theorem dv_mem:∀x∈lwT,(dvCl x)∈dvA2::(dv2L++dv3L):=fun x hx=>by
 rcases(dv_fin x hx).1 with h|h|h
 ·exact .tail _ (List.mem_append_left _ h.1)
 ·exact .tail _ (List.mem_append_right _ h.1)
 ·exact eq_of_beq h.1▸ .head _
theorem plain{x:LwX}(hx:x∈lwT)(V:List Int)(hV:V.length=x.2.1)(hv:∀v∈V,1≤v∧v≤12):Plain x V:=by
 obtain⟨W,rfl⟩:∃W:List Nat,V=castL W:=⟨V.map Int.toNat,by
  unfold castL
  rw [List.map_map]
  exact(List.map_id V).symm.trans (List.map_congr_left fun v m=>(Int.toNat_of_nonneg (Int.le_trans (by decide) (hv v m).1)).symm)⟩
 have hW:W.length=x.2.1:=(List.length_map ..).symm.trans hV
 have hd:∀v∈W,v∈dom:=fun v m=>by
  obtain⟨h1,h2⟩:=hv v (List.mem_map.mpr ⟨v,m,rfl⟩)
  exact(by decide:∀v,v<13→1≤v→v∈dom) v (by omega) (by omega)
 obtain⟨c1,c2⟩:=zx (chk_of hx hW hd)
 obtain⟨c2,c3⟩:=zx c2
 obtain⟨s1,s2,s3,s4⟩:=sv_fin x hx
 have hp:=(td_fin x hx).1
 have lt:(fun s=>ltB (zX x.1 (castL W) s))=ltN x.1 W:=funext fun s=>lt_is hp W s
 obtain⟨m1,m2⟩:=mkS_is (p:=x.1) (n:=x.2.1) (k:=x.2.2.1) (V:=castL W) 64
 have dc:=div_cast (dv_mem x hx) W
 rw [lt,s1]at m2
 refine⟨?_,?_,?_⟩
 ·rw [told_is hx hW,m1]
  have e:(zo x.2.2.1).filter (fun l=>bB x.1 x.2.1 x.2.2.1 W (zi x.2.1 l))=(zo x.2.2.1).filter fun l=>ltB (zX x.1 (castL W) (zi x.2.1 l)):=List.filter_congr fun l hl=>by
   rw [lt_is hp]
   exact eq_of_beq (List.all_eq_true.mp c1 _ (s4 l hl).1)
  rw [e]
  refine((List.isPerm_iff.mp s2).symm.filter _).trans (List.Perm.of_eq ?_)
  rw [List.filter_filter]
  exact List.filter_congr fun l _=>Bool.and_comm ..
 ·rw [m2,dc]
  exact List.elem_iff.mpr (List.mem_map.mpr ⟨_,List.elem_iff.mp c2,rfl⟩)
 ·rw [m2,dc,List.length_map]
  exact(eq_of_beq c3).trans (dlt 1 _).symm
noncomputable abbrev lwPr(w:World)(x:LwX)(V:List Int):SV:=zw (!zy w) (w8 x.2.1 x.2.2.2.2 V)
noncomputable def lwSA(w:World)(x:LwX)(V:List Int):St:=lwM (.int x.1) (.sint x.2.2.1) (.str x.2.2.2.1) x.2.1 V (lwPr w x V) (some (.int (x.2.1-1:Nat))) none none [] []
noncomputable def lwSB(w:World)(x:LwX)(V:List Int)(c7 c8:Option SV):St:=lwMi 19 (.int x.1) (.sint x.2.2.1) (.str x.2.2.2.1) x.2.1 V (lwPr w x V) (some (.int (x.2.1-1:Nat))) c7 c8 ((mkS x.1 x.2.1 x.2.2.1 V 64).1.map comL) ((mkS x.1 x.2.1 x.2.2.1 V 64).2.map comL)
noncomputable def lwSC(w:World)(x:LwX)(V:List Int)(c7 c8:Option SV)(zs:List SV):St:=lwTd [("told",.vlist zs)] (.int x.1) (.sint x.2.2.1) (.str x.2.2.2.1) x.2.1 V (lwPr w x V) (x.2.1-1:Nat) c7 c8 ((mkS x.1 x.2.1 x.2.2.1 V 64).1.map comL) ((mkS x.1 x.2.1 x.2.2.1 V 64).2.map comL)
noncomputable def lwSD(w:World)(x:LwX)(V:List Int)(c7 c8:Option SV)(zs:List SV):St:=lwTe 28 [("told",.vlist zs)] (.int x.1) (.sint x.2.2.1) (.str x.2.2.2.1) x.2.1 V (lwPr w x V) (x.2.1-1:Nat) c7 c8 ((mkS x.1 x.2.1 x.2.2.1 V 64).2.map comL)
noncomputable def lwSE(w:World)(x:LwX)(V:List Int)(c7 c8:Option SV)(zs:List SV):St:=lwG false (.vlist zs) x.1 (.sint x.2.2.1) (.str x.2.2.2.1) x.2.1 V (lwPr w x V) (x.2.1-1:Nat) c7 c8 ((mkS x.1 x.2.1 x.2.2.1 V 64).2.map comL)
noncomputable abbrev lwTold(w:World)(x:LwX)(V:List Int)(zs:List SV):Prop:=zs.Perm ((toldL x.1 (w8 x.2.1 x.2.2.2.2 V) x.2.2.1).map (.vset (!zy w)))
section
variable {w:World}{d:Nat}{z:Z}{A:Around}{E:Value→Shared→Prop}{s:List Int}{us:List Value}
theorem law_bd{z1:Z}{env:Env}{Q:Flow→Shared→Prop}(hs:s.length≤63)(pl:∀x∈lwT,∀V:List Int,V.length=x.2.1→(∀v∈V,1≤v∧v≤12)→Plain x V)(hA:A.frames=some [env])(hfr:env.frame=some env.locals)(ha1:AOk (d+30) A)(ok:Ok w z)(S1:Step (z.to st0) z1)(ev1:EnvOk z1.y yp env)(h1:z1.st=lwS0 s)
  (hQ:∀v s,Post VRel (fun v st=>v= .bool true∧st=z.st) z v s→Q (.ret v) s):wpAny (model pw w) A (execs yt env) Q E z1.s:=by
 have ok0:Ok w (z.to st0):=⟨ok.rep.inner 4,ok.base⟩
 have o1:=S1.ok ok0
 rw [lw_body]
 refine x_pre (P37_ok w (d+2)) (J:=fun st=>∃x∈lwT,st=lwS s (lwN s) x.1 x.2.1 x.2.2.1 x.2.2.2.1 x.2.2.2.2) ha1 _ (by rw [h1];exact lw_of w _ s (lwH_of hs fun x hx=>⟨x,hx,rfl⟩)) ev1 o1 fun z2 S2 o2 ⟨x,hx,h2⟩=> ?_
 have S12:=S1.trans S2
 have ev2:=S2.env ev1
 have hn:x.2.1=2∨x.2.1=3:=(mk_fin x hx).1
 obtain⟨hV,hv⟩:=lwV_ok (lwN s) x.2.1
 have h0:∀v∈lwV (lwN s) x.2.1,0<v:=fun v m=>(hv v m).1
 obtain⟨f1,f2,f3,f4⟩:=dv_fin x hx
 have p:=pl x hx _ hV hv
 have hpro:=pro_of hn f4 hV hv
 generalize eV:lwV (lwN s) x.2.1=V at hV hv h0 p hpro
 refine x_pre (P38_ok w (d+2)) (n:=60) ha1 _ (by rw [h2];exact pf_of (J:=fun st=>st=lwSA w x V) hn (eV▸hV) (eV▸h0) f4 rfl rfl (eV▸rfl)) ev2 o2 fun z3 S3 o3 h3=> ?_
 obtain⟨z4,S4,e4,r4,h4⟩:=pf_step o3.rep h3
 have S24:=S3.trans S4
 have n2:z2.st.nx=12:=by rw [h2];rfl
 obtain⟨ρ5,st5,r5,n5,S5,_,h5⟩:=anew_ok S24 (Nat.le_of_eq n2) (n2▸S24.le.nx) h4
 have ev5:EnvOk (Z.y ⟨z4.G,ρ5,st5,z4.s⟩) yp env:=ev2.to (by rw [n2];exact n5) fun i hi=>(r5 i (n2▸hi)).trans (S24.le.rho i hi)
 have S15:=S12.trans S5
 have o5:=S15.ok ok0
 rw [←e4]
 show wpAny _ _ _ _ _ (Z.s ⟨z4.G,ρ5,st5,z4.s⟩)
 replace h5:(Z.st ⟨z4.G,ρ5,st5,z4.s⟩)=_:=h5
 generalize (⟨z4.G,ρ5,st5,z4.s⟩:Z)=z5 at S15 ev5 o5 h5⊢
 refine x_pre (P40_ok w (d+2)) (n:=60) (J:=fun st=>∃c7 c8,st=lwSB w x V c7 c8) ha1 _ (by
  rw [h5]
  exact(zl (l13_f w _ x.1 x.2.2.1 _ (.str x.2.2.2.1) (lwPr w x V) V) (List.mem_cons.mpr (hn.imp id List.mem_singleton.mpr))).mpr ⟨⟨⟨rfl,rfl⟩,rfl⟩,x,V,_,_,⟨rfl,hx,hV,rfl,rfl⟩,fun c7 c8=>⟨c7,c8,rfl⟩⟩) ev5 o5 fun z6 S6 o6 ⟨c7,c8,h6⟩=> ?_
 have ev6:=S6.env ev5
 refine x_pre (P40_ok w (d+2)) (n:=60) (J:=fun st=>∃zs,lwTold w x V zs∧st=lwSC w x V c7 c8 zs) ha1 _ (by rw [h6];exact td_of hx hpro fun zs hz=>⟨zs,hz,rfl⟩) ev6 o6 fun z7 S7 o7 ⟨zs,hz,h7⟩=> ?_
 have ev7:=S7.env ev6
 obtain⟨k1,k2⟩:=coms_up _ (lw_k x hx)
 obtain⟨t1,t2⟩:=told_sub (p:=x.1) (vs:=w8 x.2.1 x.2.2.2.2 V) (k:=x.2.2.1)
 refine x_pre (P40_ok w (d+2)) (n:=60) (J:=fun st=>st=lwSD w x V c7 c8 zs) ha1 _ (by rw [h7];exact l5_of hz (Nat.le_trans t2 k1) (fun c m=>k2 c (t1 c m)) p.told rfl) ev7 o7 fun z8 S8 o8 h8=> ?_
 have ev8:=S8.env ev7
 have lw1:=(td_fin x hx).1
 refine x_pre (P42_ok w d) (n:=60) (J:=fun st=>st=lwSE w x V c7 c8 zs) ha1 _ (by
  rw [h8]
  refine(zl (l6_f w _ (.str x.2.2.2.1) (lwPr w x V) x.2.1 x.2.2.1 V (x.2.1-1:Nat) c7 c8 _ (.vlist zs)) lw1).mpr ⟨dvCl x,V,⟨cm_of hx hV,h0,?_,rfl⟩,(xc V (dvCl x)).1,(mkS x.1 x.2.1 x.2.2.1 V 64).2,⟨?_,wkL_com _⟩,fun e=> ?_,fun _=>rfl⟩
  ·rw [eq_of_beq f2,f3];rfl
  ·rw [List.map_map];rfl
  ·rw [p.mem]at e;cases e) ev8 o8 fun z9 S9 o9 h9=> ?_
 have SS:=(((S15.trans S6).trans S7).trans S8).trans S9
 refine wm (l8_all (d:=d) hA hfr (S9.env ev8) ha1 o9 h9 lw1 (cm_of hx hV) h0 (eq_of_beq f2) f3 ?_ ?_) fun f s r=> ?_
 ·rw [List.length_map];exact Nat.le_trans (mkS_len (p:=x.1) (n:=x.2.1) (k:=x.2.2.1) (V:=V) 64).2 (by decide)
 ·rw [List.length_map];exact p.tie
 ·obtain @⟨za,_,_,Sa,qa,rfl⟩:=r
  cases qa with
  |ret q=>exact hQ _ _ (.mk (z':=⟨za.G,z.ρ,z.st,za.s⟩) (Step.outer ok.rep (SS.trans Sa)) (q.move rfl) ⟨rfl,rfl⟩)
theorem law_call(hs:s.length≤63)(pl:∀x∈lwT,∀V:List Int,V.length=x.2.1→(∀v∈V,1≤v∧v≤12)→Plain x V)(hA:A.frames=some [])(ha:AOk (d+31) A)(ok:Ok w z)(q:VRels z.y [vlS s] us):wpAny (model pw w) A (call (.ref 730) us []) (Post VRel (fun v st=>v= .bool true∧st=z.st) z) E z.s:=by
 refine wpAny_call (fn_open2 (z:=z.to st0) (Z:=fun fr b st=>fr=yp∧b=yt∧st=lwS0 s) ((lw_z w _ s).mpr ⟨rfl,rfl,rfl⟩) ⟨ok.rep.inner 4,ok.base⟩ (q.move rfl) .nil ha.room fun env fr b z1 S1 ev1 hfr hL hZ=> ?_)
 obtain⟨rfl,rfl,h1⟩:=hZ
 exact law_bd hs pl (Around.frames_deeper hA) hfr ha.deeper ok S1 ev1 h1 fun v s h=>h
end
set_option tactic.hygienic true
noncomputable def YP(w:World)(h:Heap):Prop:=(∀b∈hid,h.get? b=some tab0)∧∀p∈KH w.params,h.get? p.1=some p.2
theorem YP_of(w:World)(s:Shared)(e:Yf s=Ya w):YP w s.heap:=by
 unfold Yf Ya at e
 rw [KHas_eq w.params,List.map_append,List.map_map]at e
 obtain⟨h1,h2⟩:=List.append_inj e rfl
 exact⟨List.map_inj_left.mp (show hid.map s.heap.get? =hid.map fun _=>some tab0 from h1),List.map_inj_left.mp h2⟩
theorem YP_keeps(w:World)(h h':Heap)(y:YP w h)(k:∀b o,h.get? b=some o→h'.get? b=some o):YP w h':=⟨fun b m=>k _ _ (y.1 b m),fun p m=>k _ _ (y.2 p m)⟩
theorem YP.get{w:World}{h:Heap}(y:YP w h){a:Addr}{o:Obj}(e:(KH w.params).lookup a=some o):h.get? a=some o:=y.2 _ (lookup_mem e)
theorem well_l{P:Params}{h:Heap}{v:Value}{xs:List WData}(x:Well P h v (.list xs)):∃a us,v= .ref a∧h.get? a=some (listOf us.toArray 0)∧WellAll P h us xs:=by
 cases x with
 |list a b=>exact⟨_,_,rfl,a,b⟩
theorem well_i{P:Params}{h:Heap}{v:Value}{i:Int}(x:Well P h v (.int i)):∃t,v= .int i t:=by
 cases x with
 |int=>exact⟨_,rfl⟩
theorem well_n{P:Params}{h:Heap}{vs:List Value}(x:WellAll P h vs []):vs=[]:=by cases x;rfl
theorem items_of{P:Params}{h:Heap}{xs:List WData}:∀{us:List Value},WShape.hasItems [] xs .int=true→WellAll P h us xs→∃l:List Int,xs=l.map .int∧∀y,VRels y (l.map SV.sint) us:=by
 induction xs with
 |nil=>exact fun _ hx=>⟨[],rfl,fun _=>well_n hx▸ .nil⟩
 |cons x xs ih=>
  intro us h3 hx
  obtain⟨v,us,rfl,a,b⟩:=wellAll_cons_inv hx
  obtain⟨h4,h5⟩:=Bool.and_eq_true_iff.mp (show(WShape.has [] x .int&&WShape.hasItems [] xs .int)=true from h3)
  obtain⟨i,rfl⟩:=hasW_int h4
  obtain⟨l,rfl,hl⟩:=ih h5 b
  obtain⟨t,rfl⟩:=well_i a
  exact⟨i::l,rfl,fun y=>.cons .num (hl y)⟩
theorem script_of{P:Params}{h:Heap}{vals:List Value}{args:List WData}(hs:WShape.hasAll [] args [.list .int]=true)(hw:WellAll P h vals args):∃(la:Addr) (us:List Value) (l:List Int),args=[.list (l.map .int)]∧vals=[.ref la]∧h.get? la=some (listOf us.toArray 0)∧∀y,VRels y (l.map SV.sint) us:=by
 obtain⟨d,r,rfl,h1,h2⟩:=hasAllW_cons hs
 obtain rfl:=hasAllW_nil h2
 obtain⟨xs,rfl,h3⟩:=hasW_list h1
 obtain⟨v,vs,rfl,a,b⟩:=wellAll_cons_inv hw
 obtain rfl:=well_n b
 obtain⟨la,us,rfl,hg,hx⟩:=well_l a
 obtain⟨l,rfl,hl⟩:=items_of h3 hx
 exact⟨la,us,l,rfl,rfl,hg,hl⟩
noncomputable abbrev zTop(w:World)(s:Shared)(la:Addr)(us:List Value):Z:=⟨fun a=>if a=la then some (listOf us.toArray 0)else hK w a,fun _=>0,st0,s⟩
theorem top_ok{w:World}{s:Shared}(y:YP w s.heap){la:Addr}{us:List Value}(hl:s.heap.get? la=some (listOf us.toArray 0)):Ok w (zTop w s la us):=by
 have nk:∀b∈bases,hK w b=none:=List.forall_mem_cons.mpr ⟨by kernel_rfl,List.forall_mem_cons.mpr ⟨by kernel_rfl,List.forall_mem_cons.mpr ⟨by kernel_rfl,fun _ h=>nomatch h⟩⟩⟩
 refine⟨⟨fun b o e=> ?_,fun _ _ h=>(nomatch h),fun _ _ _ _ h=>(nomatch h),fun b m=> ?_⟩,fun b o e=> ?_⟩
 ·by_cases hb:b=la
  ·rw [show(zTop w s la us).G b=some (listOf us.toArray 0)from if_pos hb]at e;rw [hb];exact hl.trans e
  ·rw [show(zTop w s la us).G b=hK w b from if_neg hb]at e;exact y.get e
 ·have hb:=y.1 b m
  have ne:b≠la:=fun q=>by
   rw [q]at hb
   have:=congrArg Obj.cls (Option.some.inj (hl.symm.trans hb))
   cases this
  exact⟨tab0,hb,.mk (ps:= #[]) trivial,(if_neg ne).trans (nk b m),fun _ _ h=>(nomatch h)⟩
 ·by_cases hb:b=la
  ·exact(if_pos hb).trans (hl.symm.trans (hb▸y.get e))
  ·exact(if_neg hb).trans e
theorem ct_of{w:World}{h:Heap}(y:YP w h){c b:Addr}{k:Tok}(e:CodeO w.params c b k):isCodeTable h b:=⟨c,_,_,y.get e.at',rfl,rfl,e.v11⟩
theorem ct_all{w:World}{h:Heap}(y:YP w h):∀b∈bases,isCodeTable h b:=List.forall_mem_cons.mpr ⟨ct_of y (code29 _),List.forall_mem_cons.mpr ⟨ct_of y (code36 _),List.forall_mem_cons.mpr ⟨ct_of y (code44 _),fun _ h=>nomatch h⟩⟩⟩
theorem oldK_of{w:World}{z z':Z}(y:YP w z.s.heap)(hz:z.st=st0)(S:Step z z'):OldK z.s.heap z'.s.heap:=by
 have tb:∀b∈bases,∃ps:Array Value,z'.s.heap.get? b=some {cls:= .none,data:= .fields ps}:=fun b m=>by
  obtain⟨_,e,⟨_⟩,_,_⟩:=S.rep.tab b m
  exact⟨_,e⟩
 have kp:∀b o,z.At b o→b∉bases→z'.At b o:=fun b o e n=>(S.out b o e ⟨fun i so h=>by rw [hz]at h;exact(nomatch h),n⟩).1
 refine⟨fun b o e=> ?_,fun b o e=> ?_⟩<;>by_cases m:b∈bases
 ·obtain⟨ps,h⟩:=tb b m
  obtain rfl:=Option.some.inj (e.symm.trans (y.1 b m))
  exact .inr (.inl ⟨ct_all y b m,rfl,#[],ps,rfl,by rw [h,Array.empty_append];rfl⟩)
 ·exact .inl (kp b o e m)
 ·exact let⟨_,h⟩:=tb b m;⟨_,h⟩
 ·exact⟨o,kp b o e m⟩
theorem law_at{w:World}{h:Heap}(y:YP w h){mg:Str→Option Value}(hg:h.Ns mainGlobals mg):mg "law"=some (.ref 730):=by
 have e:nsIn (KH w.params) 3 "law"=some (some (.ref 730)):=by kernel_rfl
 unfold nsIn at e
 split at e
 ·rename_i c d es n sl ho
  obtain⟨o,es',ep,h1,h2,_,h4⟩:=hg
  obtain rfl:=Option.some.inj (h1.symm.trans (y.get ho))
  cases h2
  rw [←h4]
  unfold nsFind findBy
  split at e
  ·rename_i en he
   rw [←Array.find?_toList,he]
   exact Option.some.inj e
  ·split at e<;>cases e
 ·cases e
theorem pre_len{l:List Int}(h:(RowW.claim rw'.row.toRowW).pre [.list (l.map .int)]=true):l.length≤63:=by
 have h2:=(holds_andW (pre_splitW h).2).1
 have h3:(WTm.not (WTm.lt (.lit (.int 63)) (.len (.arg 0)))).holds [] {args:=[.list (l.map .int)]}=true:=h2
 have h4:=condW_of h3 (by wtm_val)
 simp at h4
 omega
theorem post_ok{l:List Int}:(RowW.claim rw'.row.toRowW).post [.list (l.map .int)] (.bool true) [.list (l.map .int)]=true:=by
 kernel_rfl
theorem walk{d:DefRec}{kwd:List (Str×Expr)}(hn:d.name="law"):WalkO qv loose (fun _ _=>True) YP rw'.row.toRowW d kwd fun f vs=>PySem.call f vs:=by
 intro w s₀ s₁ mg mb G Y fa o pm cd doc dV kV ho hd hcd hD hmg hg args vs as hpre hlay hrd hwl hlo
 rw [hn,law_at Y G.T.g]at hmg
 cases hmg
 obtain⟨la,us,l,rfl,rfl,hla,hus⟩:=script_of (pre_splitW hpre).1 hwl
 have ok:=top_ok (us:=us) Y hla
 have q:VRels (zTop w s₁ la us).y [vlS l] [.ref la]:= .cons (.vlist (ze (fun _=>rfl) _) (if_pos rfl) (hus _)) .nil
 refine wpAny_mono (law_call (d:=0) (E:=fun _ _=>False) (z:=zTop w s₁ la us) (pre_len hpre) (fun x hx=>plain hx) rfl ⟨rfl,by decide,by decide⟩ ok q) (fun v s' h=> ?_) fun _ _ z=>z.elim
 obtain @⟨z',_,_,S,q,rfl,_⟩:=h
 obtain rfl:=q.inv
 exact⟨.inl ⟨_,_,[],rfl,fun _=>rfl,ReadsW.bool true,post_ok,fun _=>⟨List.nodup_nil,fun _ hm=>(nomatch hm)⟩⟩,oldK_of Y rfl S,S.gs.os,S.gs.bare (by rw [hg];exact AllBare.empty)⟩
noncomputable def posP(o:Option Stmt):Pos:=match o with
 |some (.FunctionDef (pos:=p) ..)=>p
 |_=>p0
noncomputable abbrev lawD:DefRec:=⟨"law",(tp 51).1,(tp 51).2.1,(tp 51).2.2,posP pw.main.body[51]?⟩
theorem hdef:defOf qv rw'.row.name=some (lawD,[]):=by kernel_rfl
theorem hp0:rw'.row.prog.theDef rw'.row.name=some ((tp 51).1,(tp 51).2.1,(tp 51).2.2):=by kernel_rfl
theorem hk0:kwWritten? (tp 51).1.kwonlyargs (tp 51).1.kw_defaults=some []:=by kernel_rfl
theorem ok0:(chainsOk qv&&opensWell rw'.row.prog&&(frees rw'.row.toRowW&&rw'.row.within.isEmpty))=true:=by kernel_rfl
theorem left0:LeftO pw qv loose Xt Yf Ya 10000:=left_of opened sized left1
set_option tactic.hygienic false
end Mine
end
theorem PySem.Challenge.cw_jp0012_01_holds : PySem.Challenge.rw_jp0012_01.Holds :=
  holds_law Mine.said fun said => holds_open (r := Mine.rw'.row) (q := Mine.qv) (loose := Mine.loose) (Xt := Mine.Xt) (XP := fun _ _ => True) (Yf := Mine.Yf) (Ya := Mine.Ya) (YP := Mine.YP) (N := 10000) Mine.left0 Mine.YP_of Mine.YP_keeps (fun _ _ => trivial) (fun _ _ _ _ _ => trivial) Mine.hdef Mine.hp0 Mine.hk0 (fun s e => recFacts_of e) rfl said Mine.ok0 ⟨rfl, rfl, rfl, rfl, rfl, by decide +kernel⟩ ⟨[.list []], by decide +kernel, by decide +kernel⟩ (Mine.walk rfl)
