import PyProof.Rows.All
import Wide.All
import OpenK.AllK
import Wide.FinOn
import PySem.Challenge.RW_ji0014_01
set_option linter.unusedVariables false
set_option linter.unusedSimpArgs false
set_option maxRecDepth 100000
set_option exponentiation.threshold 5000
set_option Elab.async false
set_option tactic.hygienic false
set_option compiler.extract_closed false
set_option genSizeOf false
set_option genSizeOfSpec false
set_option bootstrap.genMatcherCode false
set_option genInjectivity false
set_option genCtorIdx false
namespace Mine.Internal
theorem bT {α:Sort _}{β:Sort _}{p:α->β->Prop}{z:Prop} (w:∃ a b,p a b) (f:∀ a b,p a b->z):z:=w.elim fun a w=>w.elim (f a)
theorem eA {α:Sort _}{β:Sort _}{γ:Sort _}{p:α->β->γ->Prop}{z:Prop} (w:∃ a b c,p a b c) (f:∀ a b c,p a b c->z):z:=w.elim fun a w=>w.elim fun b w=>w.elim (f a b)
theorem kK {α:Sort _}{β:Sort _}{γ:Sort _}{δ:Sort _}{p:α->β->γ->δ->Prop}{z:Prop} (w:∃ a b c d,p a b c d) (f:∀ a b c d,p a b c d->z):z:=w.elim fun a w=>w.elim fun b w=>w.elim fun c w=>w.elim (f a b c)
theorem Te {α:Sort _}{β:Sort _}{γ:Sort _}{δ:Sort _}{ε:Sort _}{p:α->β->γ->δ->ε->Prop}{z:Prop} (w:∃ a b c d e,p a b c d e) (f:∀ a b c d e,p a b c d e->z):z:=w.elim fun a w=>w.elim fun b w=>w.elim fun c w=>w.elim fun d w=>w.elim (f a b c d)
@[elab_as_elim] theorem cB {α:Type}{M:List α->Prop}{n:Nat}{l:List α} (w:l.length=n+1) (f:∀ a r,r.length=n->M (a::r)):M l:=by
 cases l with
 | nil=>contradiction
 | cons a r=>exact f a r (Nat.succ.inj w)
@[elab_as_elim] theorem Md {α:Type}{M:List α->Prop}{l:List α} (w:l.length=4) (f:∀ a b c d,M [a,b,c,d]):M l:=by
 refine cB w fun a r w=>?_
 refine cB w fun b r w=>?_
 refine cB w fun c r w=>?_
 refine cB w fun d r w=>?_
 cases r with
 | nil=>exact f a b c d
 | cons=>contradiction
theorem aB {a b z:Prop} (w:a/\b) (f:a->b->z):z:=f w.1 w.2
theorem b5 {a b c z:Prop} (w:a/\b/\c) (f:a->b->c->z):z:=f w.1 w.2.1 w.2.2
theorem iV {a b c d z:Prop} (w:a/\b/\c/\d) (f:a->b->c->d->z):z:=f w.1 w.2.1 w.2.2.1 w.2.2.2
theorem nk {a b c d e z:Prop} (w:a/\b/\c/\d/\e) (f:a->b->c->d->e->z):z:=f w.1 w.2.1 w.2.2.1 w.2.2.2.1 w.2.2.2.2
theorem zl {a b c d e f z:Prop} (w:a/\b/\c/\d/\e/\f) (f:a->b->c->d->e->f->z):z:=f w.1 w.2.1 w.2.2.1 w.2.2.2.1 w.2.2.2.2.1 w.2.2.2.2.2
theorem Wf {a b c d e f g z:Prop} (w:a/\b/\c/\d/\e/\f/\g) (f:a->b->c->d->e->f->g->z):z:=f w.1 w.2.1 w.2.2.1 w.2.2.2.1 w.2.2.2.2.1 w.2.2.2.2.2.1 w.2.2.2.2.2.2
mutual
inductive Fn where
 | fi | eE | iW | fM | qe | bL | mapped | iX | uQ | uR | oK | multi | iY | oM | eY
 | qf | hM | eQ | iJ | iK | eZ | gq | lM | iZ | lN | gF | bH | hO | ke | qg | fN | zt | gb | eT | qh | law
inductive PG where
 | plain | uS
end
mutual
inductive Prim where
 | len | str | int | bytes | isBytes | ord | encode | decode | isdigit | lower | min | max | split | startswith | endswith | find | rfind | lstrip | join | b9
inductive dB where
 | syntax | value | bU
end
mutual
inductive PH where
 | eq | ne | lt | le | gt | ge | is | lO | isIn
inductive Hc where
 | exception | tD | tooBig | kf | hV | kL | notImplemented
end
mutual
inductive QG where
 | add | sub | mul | fdiv | mod | pow
inductive Yy where
 | a
end
noncomputable def Fn.ctorIdx (x:Fn):Nat:=x.casesOn 0 1 2 3 4 5 6 7 8 9 10 11 12 13 14 15 16 17 18 19 20 21 22 23 24 25 26 27 28 29 30 31 32 33 34 35
noncomputable def Prim.ctorIdx (x:Prim):Nat:=x.casesOn 0 1 2 3 4 5 6 7 8 9 10 11 12 13 14 15 16 17 18 19
noncomputable def Hc.ctorIdx (x:Hc):Nat:=x.casesOn 0 1 2 3 4 5 6
noncomputable def dB.ctorIdx (x:dB):Nat:=x.casesOn 0 1 2
inductive V where
 | none
 | bool (b:Bool)
 | int (i:Int)
 | str (s:List Nat)
 | bytes (s:List Nat)
 | b9 (s:List Nat)
 | list (xs:List V)
 | tuple (xs:List V)
noncomputable def Hc.lP:Hc->dB->Bool
 | .exception,_=>true
 | .hV,.syntax=>true
 | .kL,.value=>true
 | .notImplemented,.bU=>true
 | _,_=>false
noncomputable def V.ctorIdx (x:V):Nat:=x.casesOn 0 (fun O=>1) (fun O=>2) (fun O=>3) (fun O=>4) (fun O=>5) (fun O=>6) (fun O=>7)
inductive R (α:Type) where
 | ok (a:α)
 | exc (x:dB)
 | stuck
noncomputable def R.ctorIdx {α:Type} (x:R α):Nat:=x.casesOn (fun O=>0) (fun O=>1) 2
noncomputable def R.bind {α β:Type}:R α->(α->R β)->R β
 | .ok a,f=>f a
 | .exc x,_=>.exc x
 | .stuck,_=>.stuck
noncomputable def R.guard {α:Type} (c:Bool) (r:R α):R α:=if c then r else .stuck
noncomputable def lim:Nat:=1000000
noncomputable def pB:Nat:=10 ^ 4000
mutual
inductive PE where
 | const (v:V)
 | glob (v:V)
 | loc (i:Nat)
 | bin (op:QG) (a b:PE)
 | cmp (op:PH) (a b:PE)
 | not (a:PE)
 | and (a b:PE)
 | or (a b:PE)
 | call (f:Fn) (as:fZ)
 | prim (p:Prim) (as:fZ)
 | aG (p:Prim) (o:PE) (as:fZ)
 | idx (a i:PE)
 | slice (a lo hi:PE)
 | list (es:fZ)
 | tuple (es:fZ)
 | comp (elt:PE) (k:Nat) (it:uT) (c:PE)
 | qi (es:CF)
inductive fZ where
 | nil
 | cons (e:PE) (r:fZ)
inductive CF where
 | nil
 | cons (e:PE) (f:PG) (r:CF)
inductive uT where
 | val (e:PE)
 | sM (lo hi:PE) (st:Nat)
end
mutual
inductive PS where
 | assign (i:Nat) (e:PE)
 | own (i:Nat) (e:PE)
 | aug (i:Nat) (e:PE)
 | setItem (i:Nat) (aaH e:PE)
 | append (i:Nat) (e:PE)
 | push (i:Nat) (e:PE)
 | ite (c:PE) (a b:aA)
 | while (c:PE) (b:aA)
 | for (i:Nat) (it:uT) (b:aA)
 | ret (e:PE)
 | raise (x:dB) (as:fZ)
 | try (b:aA) (hs:Ij)
 | expr (e:PE)
inductive aA where
 | nil
 | cons (s:PS) (r:aA)
inductive Ij where
 | nil
 | cons (c:Hc) (b:aA) (r:Ij)
end
noncomputable def PE.ctorIdx (x:PE):Nat:=x.casesOn (fun O=>0) (fun O=>1) (fun O=>2) (fun O O O=>3) (fun O O O=>4) (fun O=>5) (fun O O=>6) (fun O O=>7) (fun O O=>8) (fun O O=>9) (fun O O O=>10) (fun O O=>11) (fun O O O=>12) (fun O=>13) (fun O=>14) (fun O O O O=>15) (fun O=>16)
noncomputable def V.truth:V->R Bool
 | .none=>.ok false
 | .bool b=>.ok b
 | .int i=>.ok (decide (i≠0))
 | .str s=>.ok (!s.isEmpty)
 | _=>.stuck
noncomputable def tE:V->V->R Bool
 | .bool a,.bool b=>.ok (decide (a=b))
 | .int a,.int b=>.ok (decide (a=b))
 | .str a,.str b=>.ok (decide (a=b))
 | .bytes a,.bytes b=>.ok (decide (a=b))
 | _,_=>.stuck
noncomputable def kM:List V->List V->R Bool
 | [],[]=>.ok true
 | x::xs,y::ys=>(tE x y).bind fun b=>(kM xs ys).bind fun c=>.ok (b&&c)
 | _,_=>.stuck
theorem lQ:kM (x::xs) (y::ys)=((tE x y).bind fun b=>(kM xs ys).bind fun c=>.ok (b&&c)):=rfl
noncomputable def V.eq:V->V->R Bool
 | .list xs,.list ys=>if xs.length=ys.length then kM xs ys else .ok false
 | .tuple xs,.tuple ys=>if xs.length=ys.length then kM xs ys else .stuck
 | a,b=>tE a b
noncomputable def sN:QG->V->V->R V
 | .add,.int a,.int b=>.ok (.int (a+b))
 | .add,.str a,.str b=>R.guard (decide (a.length+b.length<=lim)) (.ok (.str (a++b)))
 | .add,.bytes a,.bytes b=>R.guard (decide (a.length+b.length<=lim)) (.ok (.bytes (a++b)))
 | .add,.list a,.list b=>R.guard (decide (a.length+b.length<=lim)) (.ok (.list (a++b)))
 | .sub,.int a,.int b=>.ok (.int (a - b))
 | .mul,.int a,.int b=>R.guard (decide (a.natAbs<pB)&&decide (b.natAbs<pB)) (.ok (.int (a*b)))
 | .mul,.bytes a,.int n=>R.guard (decide (a.length=1)&&decide (-1000<=n)&&decide (n<=1000)) (.ok (.bytes (List.replicate n.toNat a).flatten))
 | .mul,.list a,.int n=>R.guard (decide (a.length=1)&&decide (-1000<=n)&&decide (n<=1000)) (.ok (.list (List.replicate n.toNat a).flatten))
 | .fdiv,.int a,.int b=>R.guard (decide (0<b)&&decide (b<1000000000)) (.ok (.int (Int.fdiv a b)))
 | .mod,.int a,.int b=>R.guard (decide (0<b)) (.ok (.int (Int.fmod a b)))
 | .pow,.int a,.int b=>R.guard (decide (0<=a)&&decide (a<=100)&&decide (0<=b)&&decide (b<=100)) (.ok (.int (a ^ b.toNat)))
 | _,_,_=>.stuck
noncomputable def V.isNone:V->Bool
 | .none=>true
 | _=>false
noncomputable def pE:PH->V->V->R V
 | .eq,a,b=>(V.eq a b).bind fun x=>.ok (.bool x)
 | .ne,a,b=>(V.eq a b).bind fun x=>.ok (.bool !x)
 | .lt,.int a,.int b=>.ok (.bool (decide (a<b)))
 | .le,.int a,.int b=>.ok (.bool (decide (a<=b)))
 | .gt,.int a,.int b=>.ok (.bool (decide (b<a)))
 | .ge,.int a,.int b=>.ok (.bool (decide (b<=a)))
 | .is,a,.none=>.ok (.bool a.isNone)
 | .lO,a,.none=>.ok (.bool !a.isNone)
 | .isIn,.bytes [c],.bytes b=>.ok (.bool (b.contains c))
 | _,_,_=>.stuck
noncomputable def findAt (p:List Nat):List Nat->Nat->Int
 | [],n=>if p.isEmpty then (n:Int) else -1
 | x::r,n=>if p.isPrefixOf (x::r) then (n:Int) else findAt p r (n+1)
theorem DK {p:List Nat}:findAt p (x::r) n=(if p.isPrefixOf (x::r) then (n:Int) else findAt p r (n+1)):=rfl
noncomputable def ia (c:Nat):List Nat->Nat->Int->Int
 | [],_,best=>best
 | x::r,n,best=>ia c r (n+1) (if x=c then (n:Int) else best)
theorem tF {c:Nat}:ia c (x::r) n best=(ia c r (n+1) (if x=c then (n:Int) else best)):=rfl
noncomputable def ag (c:Nat):List Nat->List (List Nat)
 | []=>[[]]
 | x::r=>if x=c then []::ag c r else match ag c r with
  | []=>[[x]]
  | p::ps=>(x::p)::ps
theorem fA {c:Nat}:ag c []=([[]]):=rfl
theorem aS {c:Nat}:ag c (x::r)=(if x=c then []::ag c r else match ag c r with
  | []=>[[x]]
  | p::ps=>(x::p)::ps):=rfl
noncomputable def a9 (sep:List Nat):List (List Nat)->List Nat
 | []=>[]
 | [x]=>x
 | x::r=>x++sep++a9 sep r
theorem de {sep:List Nat}:a9 sep []=([]):=rfl
theorem cg {sep:List Nat}:a9 sep [x]=(x):=rfl
theorem aX {sep:List Nat}:a9 sep (x::y::r)=(x++sep++a9 sep (y::r)):=rfl
noncomputable def aM (c:Nat):Bool:=decide (48<=c)&&decide (c<=57)
noncomputable def kO (c:Nat):Nat:=if 65<=c/\c<=90 then c+32 else c
noncomputable def digitsVal (s:List Nat):Nat:=s.foldl (fun a c=>a*10+(c - 48)) 0
noncomputable def bG (i:Int):List Nat:=(toString i).toList.map Char.toNat
noncomputable def dC (n:Nat):Nat:=if n<10 then 48+n else 87+n
noncomputable def strs?:List V->Option (List (List Nat))
 | []=>some []
 | .str s::r=>(strs? r).map (s::·)
 | _=>none
theorem w5:strs? (.str s::r)=((strs? r).map (s::·)):=rfl
noncomputable def fq:List V->Option (List (List Nat))
 | []=>some []
 | .bytes s::r=>(fq r).map (s::·)
 | _=>none
theorem qj:fq (.bytes s::r)=((fq r).map (s::·)):=rfl
noncomputable def eF:List V->Option (List Int)
 | []=>some []
 | .int s::r=>(eF r).map (s::·)
 | _=>none
theorem ql:eF (.int s::r)=((eF r).map (s::·)):=rfl
noncomputable def ascii (s:List Nat):Bool:=s.all fun c=>decide (c<128)
noncomputable def bf:List (List Nat)->Nat
 | []=>0
 | x::r=>x.length+bf r
theorem cM:bf []=(0):=rfl
theorem bj:bf (x::r)=(x.length+bf r):=rfl
noncomputable def bq:Prim->List V->R V
 | .len,[.str s]=>.ok (.int s.length)
 | .len,[.bytes s]=>.ok (.int s.length)
 | .len,[.list xs]=>.ok (.int xs.length)
 | .len,[.tuple xs]=>.ok (.int xs.length)
 | .str,[.int i]=>R.guard (decide (i.natAbs.log2<1920)) (.ok (.str (bG i)))
 | .int,[.bytes s]=>R.guard (!s.isEmpty&&s.all aM&&decide (s.length<=640)) (.ok (.int (digitsVal s)))
 | .bytes,[.list xs]=>match eF xs with
  | some is=>if is.all (fun i=>decide (0<=i)&&decide (i<256)) then .ok (.bytes (is.map Int.toNat)) else R.guard (is.all fun i=>decide (0<=i)) (.exc .value)
  | none=>.stuck
 | .bytes,[.b9 s]=>.ok (.bytes s)
 | .isBytes,[v]=>match v with
  | .bytes _=>.ok (.bool true)
  | .str _=>.ok (.bool false)
  | _=>.stuck
 | .ord,[.str [c]]=>.ok (.int c)
 | .encode,[.str s]=>R.guard (ascii s) (.ok (.bytes s))
 | .decode,[.bytes s]=>R.guard (!s.isEmpty&&ascii s) (.ok (.str s))
 | .isdigit,[.bytes s]=>.ok (.bool (!s.isEmpty&&s.all aM))
 | .lower,[.bytes s]=>.ok (.bytes (s.map kO))
 | .min,[.int a,.int b]=>.ok (.int (if b<a then b else a))
 | .max,[.int a,.int b]=>.ok (.int (if a<b then b else a))
 | .split,[.str s,.str [c]]=>R.guard (decide (s.length<=lim)) (.ok (.list ((ag c s).map V.str)))
 | .split,[.bytes s,.bytes [c]]=>R.guard (decide (s.length<=lim)) (.ok (.list ((ag c s).map V.bytes)))
 | .startswith,[.bytes s,.bytes p]=>.ok (.bool (p.isPrefixOf s))
 | .endswith,[.bytes s,.bytes p]=>.ok (.bool (p.isSuffixOf s))
 | .find,[.bytes s,.bytes [c]]=>.ok (.int (findAt [c] s 0))
 | .find,[.str s,.str [c]]=>.ok (.int (findAt [c] s 0))
 | .rfind,[.bytes s,.bytes [c]]=>.ok (.int (ia c s 0 (-1)))
 | .lstrip,[.str s,.str [c]]=>.ok (.str (s.dropWhile (· == c)))
 | .join,[.str sep,.list xs]=>match strs? xs with
  | some ys=>R.guard (decide (bf ys+sep.length*ys.length<=lim)) (.ok (.str (a9 sep ys)))
  | none=>.stuck
 | .join,[.bytes sep,.list xs]=>match fq xs with
  | some ys=>R.guard (decide (2<=ys.length)&&decide (bf ys+sep.length*ys.length<=lim)) (.ok (.bytes (a9 sep ys)))
  | none=>.stuck
 | .b9,[]=>.ok (.b9 [])
 | _,_=>.stuck
noncomputable def ib:V->V->R V
 | .str s,.int i=>if 0<=i then match s[i.toNat]? with | some c=>.ok (.str [c]) | none=>.stuck else .stuck
 | .bytes s,.int i=>if 0<=i then match s[i.toNat]? with | some c=>.ok (.int c) | none=>.stuck else .stuck
 | .list xs,.int i=>if 0<=i then match xs[i.toNat]? with | some v=>.ok v | none=>.stuck else .stuck
 | .tuple xs,.int i=>if 0<=i then match xs[i.toNat]? with | some v=>.ok v | none=>.stuck else .stuck
 | _,_=>.stuck
theorem Mf:ib (.str s) (.int i)=(if 0<=i then match s[i.toNat]? with | some c=>.ok (.str [c]) | none=>.stuck else .stuck):=rfl
theorem Mg:ib (.bytes s) (.int i)=(if 0<=i then match s[i.toNat]? with | some c=>.ok (.int c) | none=>.stuck else .stuck):=rfl
theorem Mh:ib (.list xs) (.int i)=(if 0<=i then match xs[i.toNat]? with | some v=>.ok v | none=>.stuck else .stuck):=rfl
theorem Mi:ib (.tuple xs) (.int i)=(if 0<=i then match xs[i.toNat]? with | some v=>.ok v | none=>.stuck else .stuck):=rfl
noncomputable def bound (n:Nat) (d:Nat):V->Option Nat
 | .none=>some d
 | .int i=>some (if i<0 then (max 0 (i+n)).toNat else min i.toNat n)
 | _=>Option.none
noncomputable def cut {α:Type} (xs:List α) (a b:Nat):List α:=(xs.drop a).take (b - a)
noncomputable def aO:V->V->V->R V
 | .str s,lo,hi=>match bound s.length 0 lo,bound s.length s.length hi with
  | some a,some b=>.ok (.str (cut s a b))
  | _,_=>.stuck
 | .bytes s,lo,hi=>match bound s.length 0 lo,bound s.length s.length hi with
  | some a,some b=>.ok (.bytes (cut s a b))
  | _,_=>.stuck
 | .list s,lo,hi=>match bound s.length 0 lo,bound s.length s.length hi with
  | some a,some b=>.ok (.list (cut s a b))
  | _,_=>.stuck
 | _,_,_=>.stuck
theorem DL:aO (.str s) lo hi=(match bound s.length 0 lo,bound s.length s.length hi with
  | some a,some b=>.ok (.str (cut s a b))
  | _,_=>.stuck):=rfl
theorem DM:aO (.bytes s) lo hi=(match bound s.length 0 lo,bound s.length s.length hi with
  | some a,some b=>.ok (.bytes (cut s a b))
  | _,_=>.stuck):=rfl
theorem DN:aO (.list s) lo hi=(match bound s.length 0 lo,bound s.length s.length hi with
  | some a,some b=>.ok (.list (cut s a b))
  | _,_=>.stuck):=rfl
noncomputable def sO:PG->V->R (List Nat)
 | .plain,.str s=>.ok s
 | .plain,.int i=>R.guard (decide (i.natAbs.log2<1920)) (.ok (bG i))
 | .uS,.int i=>if 0<=i/\i<256 then .ok [dC (i.toNat / 16),dC (i.toNat % 16)] else .stuck
 | _,_=>.stuck
noncomputable def ig (lo hi:Int) (st:Nat):List V:=(List.range (((hi - lo).toNat+st - 1) / st)).map fun (k:Nat)=>V.int (lo+(st:Int)*(k:Int))
noncomputable def qm:V->R (List V)
 | .list xs=>.ok xs
 | .str s=>R.guard (ascii s) (.ok (s.map fun c=>.str [c]))
 | .bytes s=>.ok (s.map fun (c:Nat)=>V.int (c:Int))
 | _=>.stuck
theorem Ip:qm (.list xs)=(.ok xs):=rfl
theorem w6:qm (.str s)=(R.guard (ascii s) (.ok (s.map fun c=>.str [c]))):=rfl
theorem Iq:qm (.bytes s)=(.ok (s.map fun (c:Nat)=>V.int (c:Int))):=rfl
noncomputable def eG (step:V->R (Option V)):List V->R (List V)
 | []=>.ok []
 | x::r=>match step x with
  | .ok o=>(eG step r).bind fun ys=>.ok (match o with | some y=>y::ys | none=>ys)
  | _=>.stuck
theorem Ir {step:V->R (Option V)}:eG step []=(.ok []):=rfl
theorem lR {step:V->R (Option V)}:eG step (x::r)=(match step x with
  | .ok o=>(eG step r).bind fun ys=>.ok (match o with | some y=>y::ys | none=>ys)
  | _=>.stuck):=rfl
noncomputable abbrev Ρ:=List (Option V)
noncomputable def V.i6:V->Bool
 | .str _=>true
 | .bytes _=>true
 | _=>false
noncomputable def V.gu:V->Bool
 | .b9 _=>false
 | .list _=>false
 | .tuple _=>false
 | _=>true
noncomputable def PE.isName:PE->Bool
 | .loc _=>true
 | .glob _=>true
 | _=>false
section
variable (D:Fn->List V->R V)
mutual
noncomputable def ak:PE->Ρ->R V
 | .const v,_=>.ok v
 | .glob v,_=>.ok v
 | .loc i,J=>match J[i]? with | some (some v)=>.ok v | _=>.stuck
 | .bin op a b,J=>(ak a J).bind fun x=>(ak b J).bind fun y=>sN op x y
 | .cmp op a b,J=>(ak a J).bind fun x=>(ak b J).bind fun y=>pE op x y
 | .not a,J=>(ak a J).bind fun x=>x.truth.bind fun b=>.ok (.bool !b)
 | .and a b,J=>(ak a J).bind fun x=>x.truth.bind fun t=>if t then ak b J else .ok x
 | .or a b,J=>(ak a J).bind fun x=>x.truth.bind fun t=>if t then .ok x else ak b J
 | .call f as,J=>(cS as J).bind fun vs=>D f vs
 | .prim p as,J=>(cS as J).bind fun vs=>bq p vs
 | .aG p o as,J=>(ak o J).bind fun x=>R.guard x.i6 ((cS as J).bind fun vs=>bq p (x::vs))
 | .idx a i,J=>(ak a J).bind fun x=>(ak i J).bind fun y=>R.guard (a.isName||x.i6) (ib x y)
 | .slice a lo hi,J=>(ak a J).bind fun x=>(ak lo J).bind fun l=>(ak hi J).bind fun h=>R.guard (a.isName||x.i6) (aO x l h)
 | .list es,J=>(cS es J).bind fun vs=>.ok (.list vs)
 | .tuple es,J=>(cS es J).bind fun vs=>.ok (.tuple vs)
 | .comp elt k it c,J=>(gG it J).bind fun xs=>R.guard (decide (xs.length<=lim)) <| (eG (fun x=>(ak c (J.set k (some x))).bind fun t=>t.truth.bind fun b=>
   if b then (ak elt (J.set k (some x))).bind fun y=>.ok (some y) else .ok Option.none) xs).bind fun ys=>.ok (.list ys)
 | .qi es,J=>(gH es J).bind fun s=>.ok (.str s)
noncomputable def cS:fZ->Ρ->R (List V)
 | .nil,_=>.ok []
 | .cons e r,J=>(ak e J).bind fun v=>(cS r J).bind fun vs=>.ok (v::vs)
noncomputable def gH:CF->Ρ->R (List Nat)
 | .nil,_=>.ok []
 | .cons e f r,J=>(ak e J).bind fun v=>(sO f v).bind fun s=>R.guard (decide (s.length<=100000)) ((gH r J).bind fun t=>.ok (s++t))
noncomputable def gG:uT->Ρ->R (List V)
 | .val e,J=>(ak e J).bind qm
 | .sM lo hi st,J=>(ak lo J).bind fun l=>(ak hi J).bind fun h=>match l,h with
  | .int l,.int h=>R.guard (decide (st=1∨st=2)&&decide (l.natAbs<=1000000)&&decide (h.natAbs<=1000000)) (.ok (ig l h st))
  | _,_=>.stuck
end
end
theorem QH {D:Fn->List V->R V}:ak D (.loc i) J=(match J[i]? with | some (some v)=>.ok v | _=>.stuck):=rfl
theorem QI {D:Fn->List V->R V}:ak D (.cmp op a b) J=((ak D a J).bind fun x=>(ak D b J).bind fun y=>pE op x y):=rfl
theorem QJ {D:Fn->List V->R V}:ak D (.not a) J=((ak D a J).bind fun x=>x.truth.bind fun b=>.ok (.bool !b)):=rfl
theorem QK {D:Fn->List V->R V}:ak D (.and a b) J=((ak D a J).bind fun x=>x.truth.bind fun t=>if t then ak D b J else .ok x):=rfl
theorem QL {D:Fn->List V->R V}:ak D (.or a b) J=((ak D a J).bind fun x=>x.truth.bind fun t=>if t then .ok x else ak D b J):=rfl
theorem Mj {D:Fn->List V->R V}:ak D (.prim p as) J=((cS D as J).bind fun vs=>bq p vs):=rfl
theorem Mk {D:Fn->List V->R V}:ak D (.list es) J=((cS D es J).bind fun vs=>.ok (.list vs)):=rfl
theorem CG {D:Fn->List V->R V}:ak D (.comp elt k it c) J=((gG D it J).bind fun xs=>R.guard (decide (xs.length<=lim)) <| (eG (fun x=>(ak D c (J.set k (some x))).bind fun t=>t.truth.bind fun b=>
   if b then (ak D elt (J.set k (some x))).bind fun y=>.ok (some y) else .ok Option.none) xs).bind fun ys=>.ok (.list ys)):=rfl
theorem Ml {D:Fn->List V->R V}:ak D (.qi es) J=((gH D es J).bind fun s=>.ok (.str s)):=rfl
theorem CH {D:Fn->List V->R V}:cS D .nil u1=(.ok []):=rfl
theorem pY {D:Fn->List V->R V}:cS D (.cons e r) J=((ak D e J).bind fun v=>(cS D r J).bind fun vs=>.ok (v::vs)):=rfl
theorem Mm {D:Fn->List V->R V}:gH D .nil u1=(.ok []):=rfl
theorem Mo {D:Fn->List V->R V}:gH D (.cons e f r) J=((ak D e J).bind fun v=>(sO f v).bind fun s=>R.guard (decide (s.length<=100000)) ((gH D r J).bind fun t=>.ok (s++t))):=rfl
inductive SR where
 | next (J:Ρ)
 | ret (v:V)
 | exc (x:dB) (J:Ρ)
 | stuck
noncomputable def R.on {α:Type} (r:R α) (J:Ρ) (k:α->SR):SR:=match r with
 | .ok v=>k v
 | .exc x=>.exc x J
 | .stuck=>.stuck
noncomputable def SR.then (r:SR) (k:Ρ->SR):SR:=match r with
 | .next J=>k J
 | .ret v=>.ret v
 | .exc x J=>.exc x J
 | .stuck=>.stuck
noncomputable def dk (c:Ρ->R Bool) (b:Ρ->SR):Nat->Ρ->SR
 | 0,_=>.stuck
 | n+1,J=>(c J).on J fun t=>if t then (b J).then (dk c b n) else .next J
theorem DP {c:Ρ->R Bool}{b:Ρ->SR}:dk c b (n+1) J=((c J).on J fun t=>if t then (b J).then (dk c b n) else .next J):=rfl
noncomputable def dg (i:Nat) (b:Ρ->SR):List V->Ρ->SR
 | [],J=>.next J
 | x::r,J=>(b (J.set i (some x))).then (dg i b r)
theorem Mp {i:Nat}{b:Ρ->SR}:dg i b (x::r) J=((b (J.set i (some x))).then (dg i b r)):=rfl
noncomputable def turns:Nat:=100000
section
variable (D:Fn->List V->R V)
mutual
noncomputable def bQ:PS->Ρ->SR
 | .assign i e,J=>(ak D e J).on J fun v=>.next (J.set i (some v))
 | .own i e,J=>(ak D e J).on J fun v=>match v with
  | .list _=>.next (J.set i (some v))
  | .b9 _=>.next (J.set i (some v))
  | _=>.stuck
 | .aug i e,J=>match J[i]? with
  | some (some (.int a))=>(ak D e J).on J fun v=>match v with
   | .int b=>.next (J.set i (some (.int (a+b))))
   | _=>.stuck
  | _=>.stuck
 | .setItem i aaH e,J=>(ak D e J).on J fun v=>match J[i]? with
  | some (some (.list xs))=>(ak D aaH J).on J fun k=>match k with
   | .int k=>if 0<=k/\k<xs.length/\v.gu=true then .next (J.set i (some (.list (xs.set k.toNat v)))) else .stuck
   | _=>.stuck
  | _=>.stuck
 | .append i e,J=>match J[i]? with
  | some (some (.list xs))=>(ak D e J).on J fun v=>if xs.length<lim/\v.gu=true then .next (J.set i (some (.list (xs++[v])))) else .stuck
  | _=>.stuck
 | .push i e,J=>match J[i]? with
  | some (some (.b9 s))=>(ak D e J).on J fun v=>match v with
   | .int k=>if 0<=k/\k<256/\s.length<lim then .next (J.set i (some (.b9 (s++[k.toNat])))) else .stuck
   | _=>.stuck
  | _=>.stuck
 | .ite c a b,J=>(ak D c J).on J fun v=>v.truth.on J fun t=>if t then aj a J else aj b J
 | .while c b,J=>dk (fun J=>(ak D c J).bind V.truth) (aj b) turns J
 | .for i it b,J=>(gG D it J).on J fun xs=>if xs.length<=lim then dg i (aj b) xs J else .stuck
 | .ret e,J=>(ak D e J).on J fun v=>.ret v
 | .raise x as,J=>(cS D as J).on J fun O=>.exc x J
 | .try b hs,J=>match aj b J with
  | .exc x ρ'=>Ik hs x ρ'
  | r=>r
 | .expr e,J=>(ak D e J).on J fun O=>.next J
noncomputable def aj:aA->Ρ->SR
 | .nil,J=>.next J
 | .cons s r,J=>(bQ s J).then (aj r)
noncomputable def Ik:Ij->dB->Ρ->SR
 | .nil,_,_=>.stuck
 | .cons c b r,x,J=>if c.lP x then aj b J else Ik r x J
end
end
theorem zu {D:Fn->List V->R V}:bQ D (.assign i e) J=((ak D e J).on J fun v=>.next (J.set i (some v))):=rfl
theorem QM {D:Fn->List V->R V}:bQ D (.own i e) J=((ak D e J).on J fun v=>match v with
  | .list _=>.next (J.set i (some v))
  | .b9 _=>.next (J.set i (some v))
  | _=>.stuck):=rfl
theorem QN {D:Fn->List V->R V}:bQ D (.aug i e) J=(match J[i]? with
  | some (some (.int a))=>(ak D e J).on J fun v=>match v with
   | .int b=>.next (J.set i (some (.int (a+b))))
   | _=>.stuck
  | _=>.stuck):=rfl
theorem uU {D:Fn->List V->R V}:bQ D (.append i e) J=(match J[i]? with
  | some (some (.list xs))=>(ak D e J).on J fun v=>if xs.length<lim/\v.gu=true then .next (J.set i (some (.list (xs++[v])))) else .stuck
  | _=>.stuck):=rfl
theorem uV {D:Fn->List V->R V}:bQ D (.push i e) J=(match J[i]? with
  | some (some (.b9 s))=>(ak D e J).on J fun v=>match v with
   | .int k=>if 0<=k/\k<256/\s.length<lim then .next (J.set i (some (.b9 (s++[k.toNat])))) else .stuck
   | _=>.stuck
  | _=>.stuck):=rfl
theorem QO {D:Fn->List V->R V}:bQ D (.ite c a b) J=((ak D c J).on J fun v=>v.truth.on J fun t=>if t then aj D a J else aj D b J):=rfl
theorem QP {D:Fn->List V->R V}:bQ D (.while c b) J=(dk (fun J=>(ak D c J).bind V.truth) (aj D b) turns J):=rfl
theorem QQ {D:Fn->List V->R V}:bQ D (.for i it b) J=((gG D it J).on J fun xs=>if xs.length<=lim then dg i (aj D b) xs J else .stuck):=rfl
theorem Mq {D:Fn->List V->R V}:bQ D (.ret e) J=((ak D e J).on J fun v=>.ret v):=rfl
theorem Mr {D:Fn->List V->R V}:bQ D (.raise x as) J=((cS D as J).on J fun O=>.exc x J):=rfl
theorem Ms {D:Fn->List V->R V}:bQ D (.try b hs) J=(match aj D b J with
  | .exc x ρ'=>Ik D hs x ρ'
  | r=>r):=rfl
theorem Mt {D:Fn->List V->R V}:bQ D (.expr e) J=((ak D e J).on J fun O=>.next J):=rfl
theorem Mu {D:Fn->List V->R V}:aj D .nil J=(.next J):=rfl
theorem Mv {D:Fn->List V->R V}:aj D (.cons s r) J=((bQ D s J).then (aj D r)):=rfl
theorem QR {D:Fn->List V->R V}:Ik D .nil u1 u2=(.stuck):=rfl
theorem QS {D:Fn->List V->R V}:Ik D (.cons c b r) x J=(if c.lP x then aj D b J else Ik D r x J):=rfl
structure aY where
 params:Nat
 defaults:List V
 locals:Nat
 body:aA
noncomputable def aY.start (d:aY) (as:List V):Option Ρ:=
 if as.length<=d.params/\d.params<=as.length+d.defaults.length then
  some ((as++d.defaults.drop (d.defaults.length - (d.params - as.length))).map some++List.replicate (d.locals - d.params) none)
 else none
noncomputable def SR.value:SR->R V
 | .next _=>.ok .none
 | .ret v=>.ok v
 | .exc x _=>.exc x
 | .stuck=>.stuck
noncomputable def ae (defs:Fn->aY):Nat->Fn->List V->R V
 | 0,_,_=>.stuck
 | n+1,f,as=>match (defs f).start as with
  | some J=>(aj (ae defs n) (defs f).body J).value
  | none=>.stuck
noncomputable abbrev iL:V:=(.bytes [48,49,50,51,52,53,54,55,56,57,97,98,99,100,101,102])
noncomputable abbrev iM:V:=(.bytes [0,0,0,0,0,0,0,0,0,0,255,255])
noncomputable abbrev fB:V:=(.int 2)
noncomputable abbrev eH:V:=(.int 10)
noncomputable abbrev cN:V:=(.str [48,49,50,51,52,53,54,55,56,57,97,98,99,100,101,102,65,66,67,68,69,70])
noncomputable abbrev qn:V:=(.str [48,49,50,51,52,53,54,55,56,57,65,66,67,68,69,70])
noncomputable abbrev dT:V:=(.str [48,49,50,51,52,53,54,55,56,57,97,98,99,100,101,102,65,66,67,68,69,70,58,58,58,46,46,46,37,103,120,32,43,45,95])
noncomputable abbrev jJ:V:=(.tuple [.int 86063,.int 6,.int 0,.int 0,.int 4,.int 0,.int 0,.int 4111,.int 5,.int 2,.int 5,.int 7,.int 2109825,.int 0,.int 3,.int 0,.int 0,.int 0,.int 0,.int 3,.int 1042,.int 0,.int 2,.int 0,.int 1,.int 36353,.int 224,.int 10,.int 0,.int 255,.int 0,.int 12,.int 4])
noncomputable def DQ:PS:=(.ite (.cmp .ne (.prim .len (.cons (.loc 0) .nil)) (.const (.int 4))) (.cons (.raise .syntax .nil)
.nil) .nil)
noncomputable def DR:PS:=(.ret (.qi (.cons (.idx (.loc 0) (.const (.int 0))) .plain (.cons (.const (.str [46])) .plain (.cons (.idx (.loc 0) (.const (.int 1))) .plain (.cons (.const (.str [46])) .plain (.cons (.idx (.loc 0) (.const (.int 2))) .plain (.cons (.const (.str [46])) .plain (.cons (.idx (.loc 0) (.const (.int 3))) .plain .nil)))))))))
noncomputable def DS:aA:=.cons DR .nil
noncomputable def CJ:aA:=.cons DQ DS
noncomputable def Mw:aY:={ params:=1,defaults:=[],locals:=1,body:=CJ }
noncomputable def nq:aA:=(.cons (.ite (.not (.aG .isdigit (.loc 3) .nil)) (.cons (.raise .syntax .nil)
.nil) .nil)
(.cons (.ite (.and (.cmp .gt (.prim .len (.cons (.loc 3) .nil)) (.const (.int 1))) (.cmp .eq (.idx (.loc 3) (.const (.int 0))) (.prim .ord (.cons (.const (.str [48])) .nil)))) (.cons (.raise .syntax .nil)
.nil) .nil)
.nil))
noncomputable def DT:PS:=(.ite (.not (.prim .isBytes (.cons (.loc 0) .nil))) (.cons (.assign 1 (.aG .encode (.loc 0) .nil))
.nil) (.cons (.assign 1 (.loc 0))
.nil))
noncomputable def tG:PS:=(.assign 2 (.aG .split (.loc 1) (.cons (.const (.bytes [46])) .nil)))
noncomputable def tH:PS:=(.ite (.cmp .ne (.prim .len (.cons (.loc 2) .nil)) (.const (.int 4))) (.cons (.raise .syntax .nil)
.nil) .nil)
noncomputable def DU:PS:=(.for 3 (.val (.loc 2)) nq)
noncomputable def DV:PS:=(.try (.cons (.assign 4 (.comp (.prim .int (.cons (.loc 5) .nil)) 5 (.val (.loc 2)) (.const (.bool true))))
(.cons (.ret (.prim .bytes (.cons (.loc 4) .nil)))
.nil)) (.cons .exception (.cons (.raise .syntax .nil)
.nil) .nil))
noncomputable def DW:aA:=.cons DV .nil
noncomputable def DX:aA:=.cons DU DW
noncomputable def DY:aA:=.cons tH DX
noncomputable def tI:aA:=.cons tG DY
noncomputable def uW:aA:=.cons DT tI
noncomputable def Mx:aY:={ params:=1,defaults:=[],locals:=6,body:=uW }
noncomputable def zv:PS:=(.ret (.call .fi (.cons (.call .eE (.cons (.loc 0) .nil)) .nil)))
noncomputable def qo:aA:=.cons zv .nil
noncomputable def Iu:aY:={ params:=1,defaults:=[],locals:=1,body:=qo }
noncomputable def tJ:aA:=(.cons (.assign 5 (.aG .decode (.slice (.loc 1) (.loc 3) (.bin .add (.loc 3) (.const (.int 4)))) .nil))
(.cons (.assign 5 (.or (.aG .lstrip (.loc 5) (.cons (.const (.str [48])) .nil)) (.const (.str [48]))))
(.cons (.append 2 (.loc 5))
(.cons (.aug 3 (.const (.int 4)))
.nil))))
noncomputable def jK:aA:=(.cons (.ite (.cmp .ne (.idx (.loc 2) (.loc 3)) (.const (.str [48]))) (.cons (.ite (.loc 9) (.cons (.assign 10 (.loc 3))
(.cons (.assign 11 (.bin .sub (.loc 10) (.loc 8)))
(.cons (.ite (.cmp .gt (.loc 11) (.loc 7)) (.cons (.assign 6 (.loc 8))
(.cons (.assign 7 (.loc 11))
.nil)) .nil)
(.cons (.assign 9 (.const (.bool false)))
.nil)))) .nil)
.nil) (.cons (.ite (.not (.loc 9)) (.cons (.assign 8 (.loc 3))
(.cons (.assign 9 (.const (.bool true)))
.nil)) .nil)
.nil))
.nil)
noncomputable def DZ:PS:=(.ite (.cmp .ne (.prim .len (.cons (.loc 0) .nil)) (.const (.int 16))) (.cons (.raise .value (.cons (.const (.str [73,80,118,54,32,97,100,100,114,101,115,115,101,115,32,97,114,101,32,49,54,32,98,121,116,101,115,32,108,111,110,103])) .nil))
.nil) .nil)
noncomputable def tK:PS:=(.assign 1 (.aG .join (.const (.bytes [])) (.cons (.comp (.bin .add (.slice (.glob iL) (.bin .fdiv (.loc 14) (.const (.int 16))) (.bin .add (.bin .fdiv (.loc 14) (.const (.int 16))) (.const (.int 1)))) (.slice (.glob iL) (.bin .mod (.loc 14) (.const (.int 16))) (.bin .add (.bin .mod (.loc 14) (.const (.int 16))) (.const (.int 1))))) 14 (.val (.loc 0)) (.const (.bool true))) .nil)))
noncomputable def D0:PS:=(.own 2 (.list .nil))
noncomputable def D1:PS:=(.assign 3 (.const (.int 0)))
noncomputable def D2:PS:=(.assign 4 (.prim .len (.cons (.loc 1) .nil)))
noncomputable def D3:PS:=(.while (.cmp .lt (.loc 3) (.loc 4)) tJ)
noncomputable def D4:PS:=(.assign 6 (.const (.int 0)))
noncomputable def D5:PS:=(.assign 7 (.const (.int 0)))
noncomputable def D6:PS:=(.assign 8 (.const (.int (-1))))
noncomputable def D7:PS:=(.assign 9 (.const (.bool false)))
noncomputable def zx:PS:=(.for 3 (.sM (.const (.int 0)) (.const (.int 8)) 1) jK)
noncomputable def qp:PS:=(.ite (.loc 9) (.cons (.assign 10 (.const (.int 8)))
(.cons (.assign 11 (.bin .sub (.loc 10) (.loc 8)))
(.cons (.ite (.cmp .gt (.loc 11) (.loc 7)) (.cons (.assign 6 (.loc 8))
(.cons (.assign 7 (.loc 11))
.nil)) .nil)
.nil))) .nil)
noncomputable def qq:PS:=(.ite (.cmp .gt (.loc 7) (.const (.int 1))) (.cons (.ite (.and (.cmp .eq (.loc 6) (.const (.int 0))) (.or (.cmp .eq (.loc 7) (.const (.int 6))) (.and (.cmp .eq (.loc 7) (.const (.int 5))) (.cmp .eq (.idx (.loc 2) (.const (.int 5))) (.const (.str [102,102,102,102])))))) (.cons (.ite (.cmp .eq (.loc 7) (.const (.int 6))) (.cons (.assign 12 (.const (.str [58,58])))
.nil) (.cons (.assign 12 (.const (.str [58,58,102,102,102,102,58])))
.nil))
(.cons (.assign 13 (.bin .add (.loc 12) (.call .fi (.cons (.slice (.loc 0) (.const (.int 12)) (.const .none)) .nil))))
.nil)) (.cons (.assign 13 (.bin .add (.bin .add (.aG .join (.const (.str [58])) (.cons (.slice (.loc 2) (.const .none) (.loc 6)) .nil)) (.const (.str [58,58]))) (.aG .join (.const (.str [58])) (.cons (.slice (.loc 2) (.bin .add (.loc 6) (.loc 7)) (.const .none)) .nil))))
.nil))
.nil) (.cons (.assign 13 (.aG .join (.const (.str [58])) (.cons (.loc 2) .nil)))
.nil))
noncomputable def zy:PS:=(.ret (.loc 13))
noncomputable def zA:aA:=.cons zy .nil
noncomputable def qt:aA:=.cons qq zA
noncomputable def zB:aA:=.cons qp qt
noncomputable def zC:aA:=.cons zx zB
noncomputable def D8:aA:=.cons D7 zC
noncomputable def D9:aA:=.cons D6 D8
noncomputable def Ea:aA:=.cons D5 D9
noncomputable def Eb:aA:=.cons D4 Ea
noncomputable def Ec:aA:=.cons D3 Eb
noncomputable def Ed:aA:=.cons D2 Ec
noncomputable def Ee:aA:=.cons D1 Ed
noncomputable def Ef:aA:=.cons D0 Ee
noncomputable def Eg:aA:=.cons tK Ef
noncomputable def lS:aA:=.cons DZ Eg
noncomputable def My:aY:={ params:=1,defaults:=[],locals:=15,body:=lS }
noncomputable def nu:aA:=(.cons (.ite (.not (.aG .isdigit (.loc 3) .nil)) (.cons (.ret (.const .none))
.nil) .nil)
.nil)
noncomputable def tL:PS:=(.ite (.aG .endswith (.loc 0) (.cons (.const (.bytes [10])) .nil)) (.cons (.assign 0 (.slice (.loc 0) (.const .none) (.const (.int (-1)))))
.nil) .nil)
noncomputable def tM:PS:=(.assign 1 (.aG .rfind (.loc 0) (.cons (.const (.bytes [58])) .nil)))
noncomputable def tN:PS:=(.assign 2 (.aG .split (.slice (.loc 0) (.bin .add (.loc 1) (.const (.int 1))) (.const .none)) (.cons (.const (.bytes [46])) .nil)))
noncomputable def tO:PS:=(.ite (.or (.cmp .lt (.loc 1) (.const (.int 0))) (.or (.cmp .isIn (.const (.bytes [10])) (.loc 0)) (.cmp .ne (.prim .len (.cons (.loc 2) .nil)) (.const (.int 4))))) (.cons (.ret (.const .none))
.nil) .nil)
noncomputable def Eh:PS:=(.for 3 (.val (.loc 2)) nu)
noncomputable def Ei:PS:=(.ret (.tuple (.cons (.slice (.loc 0) (.const .none) (.loc 1)) (.cons (.slice (.loc 0) (.bin .add (.loc 1) (.const (.int 1))) (.const .none)) .nil))))
noncomputable def Ej:aA:=.cons Ei .nil
noncomputable def Ek:aA:=.cons Eh Ej
noncomputable def El:aA:=.cons tO Ek
noncomputable def Em:aA:=.cons tN El
noncomputable def En:aA:=.cons tM Em
noncomputable def CK:aA:=.cons tL En
noncomputable def Mz:aY:={ params:=1,defaults:=[],locals:=4,body:=CK }
noncomputable def tP:aA:=(.cons (.append 9 (.const (.bytes [48,48,48,48])))
.nil)
noncomputable def gI:aA:=(.cons (.ite (.cmp .eq (.loc 10) (.const (.bytes []))) (.cons (.ite (.loc 8) (.cons (.raise .syntax .nil)
.nil) .nil)
(.cons (.assign 8 (.const (.bool true)))
(.cons (.for 11 (.sM (.const (.int 0)) (.bin .add (.bin .sub (.const (.int 8)) (.loc 4)) (.const (.int 1))) 1) tP)
.nil))) (.cons (.assign 12 (.prim .len (.cons (.loc 10) .nil)))
(.cons (.ite (.cmp .gt (.loc 12) (.const (.int 4))) (.cons (.raise .syntax .nil)
.nil) .nil)
(.cons (.ite (.cmp .ne (.loc 12) (.const (.int 4))) (.cons (.assign 10 (.bin .add (.bin .mul (.const (.bytes [48])) (.bin .sub (.const (.int 4)) (.loc 12))) (.loc 10)))
.nil) .nil)
(.cons (.append 9 (.loc 10))
.nil)))))
.nil)
noncomputable def gJ:aA:=(.cons (.assign 15 (.aG .find (.glob iL) (.cons (.aG .lower (.slice (.loc 2) (.loc 14) (.bin .add (.loc 14) (.const (.int 1)))) .nil) .nil)))
(.cons (.assign 16 (.aG .find (.glob iL) (.cons (.aG .lower (.slice (.loc 2) (.bin .add (.loc 14) (.const (.int 1))) (.bin .add (.loc 14) (.const (.int 2)))) .nil) .nil)))
(.cons (.ite (.or (.cmp .lt (.loc 15) (.const (.int 0))) (.cmp .lt (.loc 16) (.const (.int 0)))) (.cons (.raise .syntax .nil)
.nil) .nil)
(.cons (.push 13 (.bin .add (.bin .mul (.loc 15) (.const (.int 16))) (.loc 16)))
.nil))))
noncomputable def nx:PS:=(.ite (.not (.prim .isBytes (.cons (.loc 0) .nil))) (.cons (.assign 2 (.aG .encode (.loc 0) .nil))
.nil) (.cons (.assign 2 (.loc 0))
.nil))
noncomputable def Eo:PS:=(.ite (.loc 1) (.cons (.assign 3 (.aG .split (.loc 2) (.cons (.const (.bytes [37])) .nil)))
(.cons (.assign 4 (.prim .len (.cons (.loc 3) .nil)))
(.cons (.ite (.cmp .eq (.loc 4) (.const (.int 2))) (.cons (.assign 2 (.idx (.loc 3) (.const (.int 0))))
.nil) (.cons (.ite (.cmp .gt (.loc 4) (.const (.int 2))) (.cons (.raise .syntax .nil)
.nil) .nil)
.nil))
.nil))) .nil)
noncomputable def Ep:PS:=(.ite (.cmp .eq (.loc 2) (.const (.bytes []))) (.cons (.raise .syntax .nil)
.nil) (.cons (.ite (.and (.aG .endswith (.loc 2) (.cons (.const (.bytes [58])) .nil)) (.not (.aG .endswith (.loc 2) (.cons (.const (.bytes [58,58])) .nil)))) (.cons (.raise .syntax .nil)
.nil) (.cons (.ite (.and (.aG .startswith (.loc 2) (.cons (.const (.bytes [58])) .nil)) (.not (.aG .startswith (.loc 2) (.cons (.const (.bytes [58,58])) .nil)))) (.cons (.raise .syntax .nil)
.nil) (.cons (.ite (.cmp .eq (.loc 2) (.const (.bytes [58,58]))) (.cons (.assign 2 (.const (.bytes [48,58,58])))
.nil) .nil)
.nil))
.nil))
.nil))
noncomputable def Er:PS:=(.assign 5 (.call .qe (.cons (.loc 2) .nil)))
noncomputable def Es:PS:=(.ite (.cmp .lO (.loc 5) (.const .none)) (.cons (.assign 6 (.call .eE (.cons (.idx (.loc 5) (.const (.int 1))) .nil)))
(.cons (.assign 2 (.aG .encode (.qi (.cons (.aG .decode (.idx (.loc 5) (.const (.int 0))) .nil) .plain (.cons (.const (.str [58])) .plain (.cons (.idx (.loc 6) (.const (.int 0))) .uS (.cons (.idx (.loc 6) (.const (.int 1))) .uS (.cons (.const (.str [58])) .plain (.cons (.idx (.loc 6) (.const (.int 2))) .uS (.cons (.idx (.loc 6) (.const (.int 3))) .uS .nil)))))))) .nil))
.nil)) .nil)
noncomputable def tQ:PS:=(.ite (.aG .startswith (.loc 2) (.cons (.const (.bytes [58,58])) .nil)) (.cons (.assign 2 (.slice (.loc 2) (.const (.int 1)) (.const .none)))
.nil) (.cons (.ite (.aG .endswith (.loc 2) (.cons (.const (.bytes [58,58])) .nil)) (.cons (.assign 2 (.slice (.loc 2) (.const .none) (.const (.int (-1)))))
.nil) .nil)
.nil))
noncomputable def Et:PS:=(.assign 7 (.aG .split (.loc 2) (.cons (.const (.bytes [58])) .nil)))
noncomputable def Eu:PS:=(.assign 4 (.prim .len (.cons (.loc 7) .nil)))
noncomputable def Ew:PS:=(.ite (.cmp .gt (.loc 4) (.const (.int 8))) (.cons (.raise .syntax .nil)
.nil) .nil)
noncomputable def Ey:PS:=(.assign 8 (.const (.bool false)))
noncomputable def zD:PS:=(.own 9 (.list .nil))
noncomputable def qu:PS:=(.for 10 (.val (.loc 7)) gI)
noncomputable def zE:PS:=(.ite (.and (.cmp .lt (.loc 4) (.const (.int 8))) (.not (.loc 8))) (.cons (.raise .syntax .nil)
.nil) .nil)
noncomputable def zF:PS:=(.assign 2 (.aG .join (.const (.bytes [])) (.cons (.loc 9) .nil)))
noncomputable def zG:PS:=(.own 13 (.prim .b9 .nil))
noncomputable def qv:PS:=(.for 14 (.sM (.const (.int 0)) (.prim .len (.cons (.loc 2) .nil)) 2) gJ)
noncomputable def zH:PS:=(.ret (.prim .bytes (.cons (.loc 13) .nil)))
noncomputable def zI:aA:=.cons zH .nil
noncomputable def qw:aA:=.cons qv zI
noncomputable def zJ:aA:=.cons zG qw
noncomputable def kP:aA:=.cons zF zJ
noncomputable def zK:aA:=.cons zE kP
noncomputable def qx:aA:=.cons qu zK
noncomputable def zL:aA:=.cons zD qx
noncomputable def Ez:aA:=.cons Ey zL
noncomputable def tR:aA:=.cons Ew Ez
noncomputable def EA:aA:=.cons Eu tR
noncomputable def EB:aA:=.cons Et EA
noncomputable def ny:aA:=.cons tQ EB
noncomputable def tS:aA:=.cons Es ny
noncomputable def jL:aA:=.cons Er tS
noncomputable def jM:aA:=.cons Ep jL
noncomputable def nz:aA:=.cons Eo jM
noncomputable def uX:aA:=.cons nx nz
noncomputable def CL:aY:={ params:=2,defaults:=[.bool false],locals:=17,body:=uX }
noncomputable def zM:PS:=(.ret (.aG .startswith (.loc 0) (.cons (.glob iM) .nil)))
noncomputable def Iv:aA:=.cons zM .nil
noncomputable def Iw:aY:={ params:=1,defaults:=[],locals:=1,body:=Iv }
noncomputable def zN:PS:=(.ret (.call .fM (.cons (.call .bL (.cons (.loc 0) .nil)) .nil)))
noncomputable def qy:aA:=.cons zN .nil
noncomputable def Iy:aY:={ params:=1,defaults:=[],locals:=1,body:=qy }
noncomputable def Iz:PS:=(.ite (.cmp .eq (.loc 0) (.glob fB)) (.cons (.ret (.call .eE (.cons (.loc 1) .nil)))
.nil) (.cons (.ite (.cmp .eq (.loc 0) (.glob eH)) (.cons (.ret (.call .bL (.cons (.loc 1) (.cons (.const (.bool true)) .nil))))
.nil) (.cons (.raise .bU .nil)
.nil))
.nil))
noncomputable def QT:aA:=.cons Iz .nil
noncomputable def QV:aY:={ params:=2,defaults:=[],locals:=2,body:=QT }
noncomputable def IA:PS:=(.ite (.cmp .eq (.loc 0) (.glob fB)) (.cons (.ret (.call .fi (.cons (.loc 1) .nil)))
.nil) (.cons (.ite (.cmp .eq (.loc 0) (.glob eH)) (.cons (.ret (.call .fM (.cons (.loc 1) .nil)))
.nil) (.cons (.raise .bU .nil)
.nil))
.nil))
noncomputable def QW:aA:=.cons IA .nil
noncomputable def QX:aY:={ params:=2,defaults:=[],locals:=2,body:=QW }
noncomputable def EC:PS:=(.try (.cons (.expr (.call .eE (.cons (.loc 0) .nil)))
(.cons (.ret (.glob fB))
.nil)) (.cons .exception (.cons (.try (.cons (.expr (.call .bL (.cons (.loc 0) (.cons (.const (.bool true)) .nil))))
(.cons (.ret (.glob eH))
.nil)) (.cons .exception (.cons (.raise .value .nil)
.nil) .nil))
.nil) .nil))
noncomputable def CM:aA:=.cons EC .nil
noncomputable def MA:aY:={ params:=1,defaults:=[],locals:=1,body:=CM }
noncomputable def ED:PS:=(.try (.cons (.assign 1 (.idx (.call .eE (.cons (.loc 0) .nil)) (.const (.int 0))))
(.cons (.ret (.and (.cmp .ge (.loc 1) (.const (.int 224))) (.cmp .le (.loc 1) (.const (.int 239)))))
.nil)) (.cons .exception (.cons (.try (.cons (.assign 1 (.idx (.call .bL (.cons (.loc 0) (.cons (.const (.bool true)) .nil))) (.const (.int 0))))
(.cons (.ret (.cmp .eq (.loc 1) (.const (.int 255))))
.nil)) (.cons .exception (.cons (.raise .value .nil)
.nil) .nil))
.nil) .nil))
noncomputable def CN:aA:=.cons ED .nil
noncomputable def MC:aY:={ params:=1,defaults:=[],locals:=2,body:=CN }
noncomputable def zO:PS:=(.try (.cons (.expr (.call .eE (.cons (.loc 0) .nil)))
(.cons (.ret (.const (.bool true)))
.nil)) (.cons .exception (.cons (.try (.cons (.expr (.call .bL (.cons (.loc 0) (.cons (.const (.bool true)) .nil))))
(.cons (.ret (.const (.bool true)))
.nil)) (.cons .exception (.cons (.ret (.const (.bool false)))
.nil) .nil))
.nil) .nil))
noncomputable def w7:aA:=.cons zO .nil
noncomputable def IB:aY:={ params:=1,defaults:=[],locals:=1,body:=w7 }
noncomputable def EE:PS:=(.ite (.cmp .eq (.loc 0) (.glob fB)) (.cons (.ret (.const (.str [48,46,48,46,48,46,48])))
.nil) (.cons (.ite (.cmp .eq (.loc 0) (.glob eH)) (.cons (.ret (.const (.str [58,58])))
.nil) .nil)
.nil))
noncomputable def EF:PS:=(.raise .bU (.cons (.qi (.cons (.const (.str [117,110,107,110,111,119,110,32,97,100,100,114,101,115,115,32,102,97,109,105,108,121,32])) .plain (.cons (.loc 0) .plain .nil))) .nil))
noncomputable def EG:aA:=.cons EF .nil
noncomputable def CP:aA:=.cons EE EG
noncomputable def MD:aY:={ params:=1,defaults:=[],locals:=1,body:=CP }
noncomputable def zP:PS:=(.try (.cons (.ret (.call .iX (.cons (.loc 0) .nil)))
.nil) (.cons .exception (.cons (.try (.cons (.ret (.call .iW (.cons (.loc 0) .nil)))
.nil) (.cons .exception (.cons (.raise .value .nil)
.nil) .nil))
.nil) .nil))
noncomputable def w8:aA:=.cons zP .nil
noncomputable def IC:aY:={ params:=1,defaults:=[],locals:=1,body:=w8 }
noncomputable def MF:PS:=(.ite (.cmp .lt (.loc 1) (.prim .len (.cons (.loc 0) .nil))) (.cons (.ret (.idx (.loc 0) (.loc 1)))
.nil) .nil)
noncomputable def MG:PS:=(.ret (.idx (.glob jJ) (.loc 1)))
noncomputable def MH:aA:=.cons MG .nil
noncomputable def PJ:aA:=.cons MF MH
noncomputable def Tf:aY:={ params:=2,defaults:=[],locals:=2,body:=PJ }
noncomputable def i7:aA:=(.cons (.assign 3 (.bin .mod (.call .qf (.cons (.loc 0) (.cons (.loc 2) .nil))) (.const (.int 524288))))
(.cons (.assign 4 (.bin .mod (.loc 3) (.const (.int 8))))
(.cons (.ite (.cmp .lt (.loc 4) (.const (.int 4))) (.cons (.append 1 (.const (.int 0)))
.nil) (.cons (.ite (.cmp .eq (.loc 4) (.const (.int 4))) (.cons (.append 1 (.const (.int 1)))
.nil) (.cons (.ite (.cmp .eq (.loc 4) (.const (.int 5))) (.cons (.append 1 (.const (.int 65535)))
.nil) (.cons (.ite (.cmp .eq (.loc 4) (.const (.int 6))) (.cons (.append 1 (.const (.int 3512)))
.nil) (.cons (.append 1 (.bin .fdiv (.loc 3) (.const (.int 8))))
.nil))
.nil))
.nil))
.nil))
.nil)))
noncomputable def w9:PS:=(.own 1 (.list .nil))
noncomputable def xc:PS:=(.for 2 (.sM (.const (.int 0)) (.const (.int 8)) 1) i7)
noncomputable def xd:PS:=(.assign 5 (.bin .mod (.call .qf (.cons (.loc 0) (.cons (.const (.int 8)) .nil))) (.const (.int 8))))
noncomputable def oN:PS:=(.ite (.cmp .lt (.loc 5) (.const (.int 2))) (.cons (.own 1 (.bin .add (.list (.cons (.const (.int 0)) (.cons (.const (.int 0)) (.cons (.const (.int 0)) (.cons (.const (.int 0)) (.cons (.const (.int 0)) .nil)))))) (.slice (.loc 1) (.const (.int 5)) (.const .none))))
(.cons (.ite (.cmp .eq (.loc 5) (.const (.int 0))) (.cons (.setItem 1 (.const (.int 5)) (.const (.int 65535)))
.nil) (.cons (.setItem 1 (.const (.int 5)) (.const (.int 0)))
.nil))
.nil)) .nil)
noncomputable def xg:PS:=(.ret (.loc 1))
noncomputable def xh:aA:=.cons xg .nil
noncomputable def xj:aA:=.cons oN xh
noncomputable def xk:aA:=.cons xd xj
noncomputable def xl:aA:=.cons xc xk
noncomputable def tT:aA:=.cons w9 xl
noncomputable def EH:aY:={ params:=1,defaults:=[],locals:=6,body:=tT }
noncomputable def oO:aA:=(.cons (.append 1 (.bin .fdiv (.loc 2) (.const (.int 256))))
(.cons (.append 1 (.bin .mod (.loc 2) (.const (.int 256))))
.nil))
noncomputable def xm:PS:=(.own 1 (.list .nil))
noncomputable def xq:PS:=(.for 2 (.val (.loc 0)) oO)
noncomputable def xr:PS:=(.ret (.prim .bytes (.cons (.loc 1) .nil)))
noncomputable def xt:aA:=.cons xr .nil
noncomputable def xu:aA:=.cons xq xt
noncomputable def tU:aA:=.cons xm xu
noncomputable def EI:aY:={ params:=1,defaults:=[],locals:=3,body:=tU }
noncomputable def nA:aA:=(.cons (.assign 3 (.bin .add (.idx (.loc 2) (.bin .mod (.loc 0) (.const (.int 16)))) (.loc 3)))
(.cons (.assign 0 (.bin .fdiv (.loc 0) (.const (.int 16))))
.nil))
noncomputable def EJ:PS:=(.assign 3 (.const (.str [])))
noncomputable def EK:PS:=(.while (.or (.cmp .gt (.loc 0) (.const (.int 0))) (.cmp .lt (.prim .len (.cons (.loc 3) .nil)) (.loc 1))) nA)
noncomputable def EL:PS:=(.ret (.loc 3))
noncomputable def EP:aA:=.cons EL .nil
noncomputable def ER:aA:=.cons EK EP
noncomputable def CQ:aA:=.cons EJ ER
noncomputable def MJ:aY:={ params:=3,defaults:=[],locals:=4,body:=CQ }
noncomputable def EV:PS:=(.ret (.aG .join (.const (.str [46])) (.cons (.comp (.prim .str (.cons (.loc 1) .nil)) 1 (.val (.loc 0)) (.const (.bool true))) .nil)))
noncomputable def CT:aA:=.cons EV .nil
noncomputable def MK:aY:={ params:=1,defaults:=[],locals:=2,body:=CT }
noncomputable def zQ:PS:=(.ret (.list (.cons (.bin .fdiv (.idx (.loc 0) (.const (.int 0))) (.const (.int 256))) (.cons (.bin .mod (.idx (.loc 0) (.const (.int 0))) (.const (.int 256))) (.cons (.bin .fdiv (.idx (.loc 0) (.const (.int 1))) (.const (.int 256))) (.cons (.bin .mod (.idx (.loc 0) (.const (.int 1))) (.const (.int 256))) .nil))))))
noncomputable def qz:aA:=.cons zQ .nil
noncomputable def IE:aY:={ params:=1,defaults:=[],locals:=1,body:=qz }
noncomputable def ik:aA:=(.cons (.ite (.cmp .eq (.slice (.loc 0) (.loc 3) (.bin .add (.loc 3) (.loc 2))) (.bin .mul (.list (.cons (.const (.int 0)) .nil)) (.loc 2))) (.cons (.ite (.and (.cmp .eq (.loc 3) (.const (.int 0))) (.cmp .eq (.loc 2) (.const (.int 6)))) (.cons (.ret (.bin .add (.const (.str [58,58])) (.call .iK (.cons (.call .eZ (.cons (.slice (.loc 0) (.const (.int 6)) (.const .none)) .nil)) .nil))))
.nil) .nil)
(.cons (.ite (.and (.cmp .eq (.loc 3) (.const (.int 0))) (.and (.cmp .eq (.loc 2) (.const (.int 5))) (.cmp .eq (.idx (.loc 0) (.const (.int 5))) (.const (.int 65535))))) (.cons (.ret (.bin .add (.const (.str [58,58,102,102,102,102,58])) (.call .iK (.cons (.call .eZ (.cons (.slice (.loc 0) (.const (.int 6)) (.const .none)) .nil)) .nil))))
.nil) .nil)
(.cons (.ret (.bin .add (.bin .add (.aG .join (.const (.str [58])) (.cons (.slice (.loc 1) (.const .none) (.loc 3)) .nil)) (.const (.str [58,58]))) (.aG .join (.const (.str [58])) (.cons (.slice (.loc 1) (.bin .add (.loc 3) (.loc 2)) (.const .none)) .nil))))
.nil))) .nil)
.nil)
noncomputable def kQ:aA:=(.cons (.for 3 (.sM (.const (.int 0)) (.bin .sub (.const (.int 9)) (.loc 2)) 1) ik)
(.cons (.assign 2 (.bin .sub (.loc 2) (.const (.int 1))))
.nil))
noncomputable def zR:PS:=(.assign 1 (.comp (.call .iJ (.cons (.loc 4) (.cons (.const (.int 1)) (.cons (.glob cN) .nil)))) 4 (.val (.loc 0)) (.const (.bool true))))
noncomputable def zS:PS:=(.assign 2 (.const (.int 8)))
noncomputable def zT:PS:=(.while (.cmp .gt (.loc 2) (.const (.int 1))) kQ)
noncomputable def zU:PS:=(.ret (.aG .join (.const (.str [58])) (.cons (.loc 1) .nil)))
noncomputable def zV:aA:=.cons zU .nil
noncomputable def zW:aA:=.cons zT zV
noncomputable def zX:aA:=.cons zS zW
noncomputable def xv:aA:=.cons zR zX
noncomputable def IG:aY:={ params:=1,defaults:=[],locals:=5,body:=xv }
noncomputable def gK:aA:=(.cons (.ite (.cmp .eq (.loc 4) (.const (.str [46]))) (.cons (.ite (.or (.cmp .ne (.prim .str (.cons (.loc 3) .nil)) (.loc 2)) (.cmp .gt (.loc 3) (.const (.int 255)))) (.cons (.ret (.list .nil))
.nil) .nil)
(.cons (.append 1 (.loc 3))
(.cons (.assign 2 (.const (.str [])))
(.cons (.assign 3 (.const (.int 0)))
.nil)))) (.cons (.assign 5 (.aG .find (.glob cN) (.cons (.loc 4) .nil)))
(.cons (.ite (.or (.cmp .lt (.loc 5) (.const (.int 0))) (.cmp .gt (.loc 5) (.const (.int 9)))) (.cons (.ret (.list .nil))
.nil) .nil)
(.cons (.assign 2 (.bin .add (.loc 2) (.loc 4)))
(.cons (.assign 3 (.bin .add (.bin .mul (.loc 3) (.const (.int 10))) (.loc 5)))
.nil)))))
.nil)
noncomputable def EW:PS:=(.own 1 (.list .nil))
noncomputable def EX:PS:=(.assign 2 (.const (.str [])))
noncomputable def EY:PS:=(.assign 3 (.const (.int 0)))
noncomputable def EZ:PS:=(.for 4 (.val (.bin .add (.loc 0) (.const (.str [46])))) gK)
noncomputable def E0:PS:=(.ite (.cmp .ne (.prim .len (.cons (.loc 1) .nil)) (.const (.int 4))) (.cons (.ret (.list .nil))
.nil) .nil)
noncomputable def E1:PS:=(.ret (.loc 1))
noncomputable def E2:aA:=.cons E1 .nil
noncomputable def E3:aA:=.cons E0 E2
noncomputable def E4:aA:=.cons EZ E3
noncomputable def E5:aA:=.cons EY E4
noncomputable def E6:aA:=.cons EX E5
noncomputable def CV:aA:=.cons EW E6
noncomputable def ML:aY:={ params:=1,defaults:=[],locals:=6,body:=CV }
noncomputable def fO:aA:=(.cons (.assign 3 (.aG .find (.glob cN) (.cons (.loc 2) .nil)))
(.cons (.ite (.cmp .lt (.loc 3) (.const (.int 0))) (.cons (.ret (.const (.int (-1))))
.nil) .nil)
(.cons (.ite (.cmp .gt (.loc 3) (.const (.int 15))) (.cons (.assign 3 (.bin .sub (.loc 3) (.const (.int 6))))
.nil) .nil)
(.cons (.assign 1 (.bin .add (.bin .mul (.loc 1) (.const (.int 16))) (.loc 3)))
.nil))))
noncomputable def zY:PS:=(.ite (.or (.cmp .lt (.prim .len (.cons (.loc 0) .nil)) (.const (.int 1))) (.cmp .gt (.prim .len (.cons (.loc 0) .nil)) (.const (.int 4)))) (.cons (.ret (.const (.int (-1))))
.nil) .nil)
noncomputable def zZ:PS:=(.assign 1 (.const (.int 0)))
noncomputable def qA:PS:=(.for 2 (.val (.loc 0)) fO)
noncomputable def z6:PS:=(.ret (.loc 1))
noncomputable def z7:aA:=.cons z6 .nil
noncomputable def qB:aA:=.cons qA z7
noncomputable def z8:aA:=.cons zZ qB
noncomputable def i9:aA:=.cons zY z8
noncomputable def IH:aY:={ params:=1,defaults:=[],locals:=4,body:=i9 }
noncomputable def fC:aA:=(.cons (.assign 5 (.call .iZ (.cons (.idx (.loc 3) (.loc 4)) .nil)))
(.cons (.ite (.cmp .ge (.loc 5) (.const (.int 0))) (.cons (.append 2 (.loc 5))
.nil) (.cons (.assign 6 (.call .lM (.cons (.idx (.loc 3) (.loc 4)) .nil)))
(.cons (.ite (.or (.cmp .eq (.loc 6) (.list .nil)) (.or (.not (.loc 1)) (.cmp .ne (.loc 4) (.bin .sub (.prim .len (.cons (.loc 3) .nil)) (.const (.int 1)))))) (.cons (.ret (.const .none))
.nil) .nil)
(.cons (.append 2 (.bin .add (.bin .mul (.idx (.loc 6) (.const (.int 0))) (.const (.int 256))) (.idx (.loc 6) (.const (.int 1)))))
(.cons (.append 2 (.bin .add (.bin .mul (.idx (.loc 6) (.const (.int 2))) (.const (.int 256))) (.idx (.loc 6) (.const (.int 3)))))
.nil)))))
.nil))
noncomputable def E7:PS:=(.ite (.cmp .eq (.loc 0) (.const (.str []))) (.cons (.ret (.list .nil))
.nil) .nil)
noncomputable def E8:PS:=(.own 2 (.list .nil))
noncomputable def E9:PS:=(.assign 3 (.aG .split (.loc 0) (.cons (.const (.str [58])) .nil)))
noncomputable def tV:PS:=(.for 4 (.sM (.const (.int 0)) (.prim .len (.cons (.loc 3) .nil)) 1) fC)
noncomputable def Fb:PS:=(.ret (.loc 2))
noncomputable def Fc:aA:=.cons Fb .nil
noncomputable def tW:aA:=.cons tV Fc
noncomputable def Fd:aA:=.cons E9 tW
noncomputable def Fe:aA:=.cons E8 Fd
noncomputable def lT:aA:=.cons E7 Fe
noncomputable def MN:aY:={ params:=2,defaults:=[],locals:=7,body:=lT }
noncomputable def tX:PS:=(.assign 1 (.comp (.loc 5) 5 (.sM (.const (.int 0)) (.prim .len (.cons (.loc 0) .nil)) 1) (.cmp .eq (.slice (.loc 0) (.loc 5) (.bin .add (.loc 5) (.const (.int 2)))) (.const (.str [58,58])))))
noncomputable def Ff:PS:=(.ite (.cmp .gt (.prim .len (.cons (.loc 1) .nil)) (.const (.int 1))) (.cons (.ret (.const .none))
.nil) .nil)
noncomputable def Fg:PS:=(.ite (.cmp .eq (.prim .len (.cons (.loc 1) .nil)) (.const (.int 0))) (.cons (.assign 2 (.call .lN (.cons (.loc 0) (.cons (.const (.bool true)) .nil))))
(.cons (.ite (.or (.cmp .is (.loc 2) (.const .none)) (.cmp .ne (.prim .len (.cons (.loc 2) .nil)) (.const (.int 8)))) (.cons (.ret (.const .none))
.nil) .nil)
(.cons (.ret (.loc 2))
.nil))) .nil)
noncomputable def Fh:PS:=(.assign 3 (.call .lN (.cons (.slice (.loc 0) (.const .none) (.idx (.loc 1) (.const (.int 0)))) (.cons (.const (.bool false)) .nil))))
noncomputable def Fi:PS:=(.assign 4 (.call .lN (.cons (.slice (.loc 0) (.bin .add (.idx (.loc 1) (.const (.int 0))) (.const (.int 2))) (.const .none)) (.cons (.const (.bool true)) .nil))))
noncomputable def Fj:PS:=(.ite (.or (.cmp .is (.loc 3) (.const .none)) (.or (.cmp .is (.loc 4) (.const .none)) (.cmp .gt (.bin .add (.prim .len (.cons (.loc 3) .nil)) (.prim .len (.cons (.loc 4) .nil))) (.const (.int 7))))) (.cons (.ret (.const .none))
.nil) .nil)
noncomputable def tY:PS:=(.ret (.bin .add (.bin .add (.loc 3) (.bin .mul (.list (.cons (.const (.int 0)) .nil)) (.bin .sub (.bin .sub (.const (.int 8)) (.prim .len (.cons (.loc 3) .nil))) (.prim .len (.cons (.loc 4) .nil))))) (.loc 4)))
noncomputable def Fl:aA:=.cons tY .nil
noncomputable def tZ:aA:=.cons Fj Fl
noncomputable def Fm:aA:=.cons Fi tZ
noncomputable def Fo:aA:=.cons Fh Fm
noncomputable def Fp:aA:=.cons Fg Fo
noncomputable def t5:aA:=.cons Ff Fp
noncomputable def il:aA:=.cons tX t5
noncomputable def MP:aY:={ params:=1,defaults:=[],locals:=6,body:=il }
noncomputable def Fq:PS:=(.try (.cons (.ite (.cmp .eq (.loc 0) (.const (.int 0))) (.cons (.assign 3 (.call .bL (.cons (.loc 1) .nil)))
.nil) (.cons (.ite (.cmp .eq (.loc 0) (.const (.int 1))) (.cons (.assign 3 (.call .bL (.cons (.loc 1) (.cons (.const (.bool true)) .nil))))
.nil) (.cons (.ite (.cmp .eq (.loc 0) (.const (.int 2))) (.cons (.assign 3 (.call .bL (.cons (.aG .encode (.loc 1) .nil) .nil)))
.nil) (.cons (.ite (.cmp .eq (.loc 0) (.const (.int 3))) (.cons (.assign 3 (.call .uQ (.cons (.loc 2) (.cons (.loc 1) .nil))))
.nil) (.cons (.ite (.cmp .eq (.loc 0) (.const (.int 4))) (.cons (.assign 3 (.call .oK (.cons (.loc 1) .nil)))
.nil) (.cons (.ite (.cmp .eq (.loc 0) (.const (.int 5))) (.cons (.assign 3 (.call .iY (.cons (.loc 1) .nil)))
.nil) (.cons (.ite (.cmp .eq (.loc 0) (.const (.int 6))) (.cons (.assign 3 (.call .multi (.cons (.loc 1) .nil)))
.nil) (.cons (.ite (.cmp .eq (.loc 0) (.const (.int 7))) (.cons (.assign 3 (.call .eY (.cons (.loc 1) .nil)))
.nil) (.cons (.ite (.cmp .eq (.loc 0) (.const (.int 8))) (.cons (.assign 3 (.call .fM (.cons (.loc 1) .nil)))
.nil) (.cons (.ite (.cmp .eq (.loc 0) (.const (.int 9))) (.cons (.assign 3 (.call .uR (.cons (.loc 2) (.cons (.loc 1) .nil))))
.nil) (.cons (.assign 3 (.call .oM (.cons (.loc 2) .nil)))
.nil))
.nil))
.nil))
.nil))
.nil))
.nil))
.nil))
.nil))
.nil))
.nil))
.nil) (.cons .tD (.cons (.ret (.tuple (.cons (.const (.str [114,97,105,115,101,100])) (.cons (.const (.str [97,110,111,116,104,101,114])) .nil))))
.nil) (.cons .tooBig (.cons (.ret (.tuple (.cons (.const (.str [114,97,105,115,101,100])) (.cons (.const (.str [97,110,111,116,104,101,114])) .nil))))
.nil) (.cons .kf (.cons (.ret (.tuple (.cons (.const (.str [114,97,105,115,101,100])) (.cons (.const (.str [97,110,111,116,104,101,114])) .nil))))
.nil) (.cons .hV (.cons (.ret (.tuple (.cons (.const (.str [114,97,105,115,101,100])) (.cons (.const (.str [115,121,110,116,97,120])) .nil))))
.nil) (.cons .kL (.cons (.ret (.tuple (.cons (.const (.str [114,97,105,115,101,100])) (.cons (.const (.str [118,97,108,117,101])) .nil))))
.nil) (.cons .notImplemented (.cons (.ret (.tuple (.cons (.const (.str [114,97,105,115,101,100])) (.cons (.const (.str [102,97,109,105,108,121])) .nil))))
.nil) .nil)))))))
noncomputable def Ft:PS:=(.ret (.tuple (.cons (.const (.str [116,111,108,100])) (.cons (.loc 3) .nil))))
noncomputable def Fu:aA:=.cons Ft .nil
noncomputable def iq:aA:=.cons Fq Fu
noncomputable def MQ:aY:={ params:=3,defaults:=[],locals:=4,body:=iq }
noncomputable def z9:PS:=(.ite (.cmp .eq (.loc 0) (.const (.int 2))) (.cons (.ret (.loc 1))
.nil) .nil)
noncomputable def Aa:PS:=(.ite (.cmp .eq (.loc 0) (.const (.int 10))) (.cons (.ret (.loc 2))
.nil) .nil)
noncomputable def Ab:PS:=(.ret (.tuple (.cons (.const (.str [114,97,105,115,101,100])) (.cons (.const (.str [102,97,109,105,108,121])) .nil))))
noncomputable def Ac:aA:=.cons Ab .nil
noncomputable def Ad:aA:=.cons Aa Ac
noncomputable def xx:aA:=.cons z9 Ad
noncomputable def II:aY:={ params:=3,defaults:=[],locals:=3,body:=xx }
noncomputable def Fv:PS:=(.assign 2 (.call .lM (.cons (.loc 0) .nil)))
noncomputable def Fw:PS:=(.assign 3 (.call .gF (.cons (.loc 0) .nil)))
noncomputable def Fx:PS:=(.assign 4 (.loc 3))
noncomputable def t7:PS:=(.assign 5 (.comp (.loc 13) 13 (.sM (.const (.int 0)) (.prim .len (.cons (.loc 0) .nil)) 1) (.cmp .eq (.idx (.loc 0) (.loc 13)) (.const (.str [37])))))
noncomputable def t8:PS:=(.ite (.cmp .eq (.prim .len (.cons (.loc 5) .nil)) (.const (.int 1))) (.cons (.assign 4 (.call .gF (.cons (.slice (.loc 0) (.const .none) (.idx (.loc 5) (.const (.int 0)))) .nil)))
.nil) .nil)
noncomputable def Fy:PS:=(.assign 6 (.tuple (.cons (.const (.str [114,97,105,115,101,100])) (.cons (.const (.str [115,121,110,116,97,120])) .nil))))
noncomputable def Fz:PS:=(.assign 7 (.tuple (.cons (.const (.str [114,97,105,115,101,100])) (.cons (.const (.str [115,121,110,116,97,120])) .nil))))
noncomputable def FC:PS:=(.assign 8 (.tuple (.cons (.const (.str [114,97,105,115,101,100])) (.cons (.const (.str [115,121,110,116,97,120])) .nil))))
noncomputable def FD:PS:=(.assign 9 (.tuple (.cons (.const (.str [114,97,105,115,101,100])) (.cons (.const (.str [118,97,108,117,101])) .nil))))
noncomputable def FE:PS:=(.assign 10 (.tuple (.cons (.const (.str [116,111,108,100])) (.cons (.const (.bool false)) .nil))))
noncomputable def Ae:PS:=(.assign 11 (.tuple (.cons (.const (.str [114,97,105,115,101,100])) (.cons (.const (.str [118,97,108,117,101])) .nil))))
noncomputable def Af:PS:=(.assign 12 (.tuple (.cons (.const (.str [114,97,105,115,101,100])) (.cons (.const (.str [118,97,108,117,101])) .nil))))
noncomputable def qC:PS:=(.ite (.cmp .ne (.loc 2) (.list .nil)) (.cons (.assign 6 (.tuple (.cons (.const (.str [116,111,108,100])) (.cons (.prim .bytes (.cons (.loc 2) .nil)) .nil))))
(.cons (.assign 9 (.tuple (.cons (.const (.str [116,111,108,100])) (.cons (.const (.int 2)) .nil))))
(.cons (.assign 10 (.tuple (.cons (.const (.str [116,111,108,100])) (.cons (.const (.bool true)) .nil))))
(.cons (.assign 11 (.tuple (.cons (.const (.str [116,111,108,100])) (.cons (.cmp .eq (.bin .fdiv (.idx (.loc 2) (.const (.int 0))) (.const (.int 16))) (.const (.int 14))) .nil))))
(.cons (.assign 12 (.tuple (.cons (.const (.str [116,111,108,100])) (.cons (.loc 0) .nil))))
.nil))))) .nil)
noncomputable def qD:PS:=(.ite (.cmp .lO (.loc 4) (.const .none)) (.cons (.assign 8 (.tuple (.cons (.const (.str [116,111,108,100])) (.cons (.call .eQ (.cons (.loc 4) .nil)) .nil))))
(.cons (.assign 9 (.tuple (.cons (.const (.str [116,111,108,100])) (.cons (.const (.int 10)) .nil))))
(.cons (.assign 10 (.tuple (.cons (.const (.str [116,111,108,100])) (.cons (.const (.bool true)) .nil))))
(.cons (.assign 11 (.tuple (.cons (.const (.str [116,111,108,100])) (.cons (.cmp .ge (.idx (.loc 4) (.const (.int 0))) (.const (.int 65280))) .nil))))
.nil)))) .nil)
noncomputable def qE:PS:=(.ite (.cmp .lO (.loc 3) (.const .none)) (.cons (.assign 7 (.tuple (.cons (.const (.str [116,111,108,100])) (.cons (.call .eQ (.cons (.loc 3) .nil)) .nil))))
(.cons (.assign 12 (.tuple (.cons (.const (.str [116,111,108,100])) (.cons (.call .gq (.cons (.loc 3) .nil)) .nil))))
.nil)) .nil)
noncomputable def Ag:PS:=(.ite (.or (.cmp .ne (.call .bH (.cons (.const (.int 0)) (.cons (.loc 0) (.cons (.const (.int 0)) .nil)))) (.loc 7)) (.cmp .ne (.call .bH (.cons (.const (.int 2)) (.cons (.loc 0) (.cons (.const (.int 0)) .nil)))) (.loc 7))) (.cons (.ret (.const (.bool false)))
.nil) .nil)
noncomputable def Ah:PS:=(.ite (.or (.cmp .ne (.call .bH (.cons (.const (.int 1)) (.cons (.loc 0) (.cons (.const (.int 0)) .nil)))) (.loc 8)) (.cmp .ne (.call .bH (.cons (.const (.int 3)) (.cons (.loc 0) (.cons (.const (.int 10)) .nil)))) (.loc 8))) (.cons (.ret (.const (.bool false)))
.nil) .nil)
noncomputable def Ai:PS:=(.ite (.cmp .ne (.call .bH (.cons (.const (.int 3)) (.cons (.loc 0) (.cons (.const (.int 2)) .nil)))) (.loc 6)) (.cons (.ret (.const (.bool false)))
.nil) .nil)
noncomputable def Aj:PS:=(.ite (.cmp .ne (.call .bH (.cons (.const (.int 3)) (.cons (.loc 0) (.cons (.loc 1) .nil)))) (.call .hO (.cons (.loc 1) (.cons (.loc 6) (.cons (.loc 8) .nil))))) (.cons (.ret (.const (.bool false)))
.nil) .nil)
noncomputable def Ak:PS:=(.ite (.or (.cmp .ne (.call .bH (.cons (.const (.int 4)) (.cons (.loc 0) (.cons (.const (.int 0)) .nil)))) (.loc 9)) (.cmp .ne (.call .bH (.cons (.const (.int 5)) (.cons (.loc 0) (.cons (.const (.int 0)) .nil)))) (.loc 10))) (.cons (.ret (.const (.bool false)))
.nil) .nil)
noncomputable def Al:PS:=(.ite (.or (.cmp .ne (.call .bH (.cons (.const (.int 6)) (.cons (.loc 0) (.cons (.const (.int 0)) .nil)))) (.loc 11)) (.cmp .ne (.call .bH (.cons (.const (.int 7)) (.cons (.loc 0) (.cons (.const (.int 0)) .nil)))) (.loc 12))) (.cons (.ret (.const (.bool false)))
.nil) .nil)
noncomputable def Am:PS:=(.ite (.and (.cmp .eq (.idx (.loc 12) (.const (.int 0))) (.const (.str [116,111,108,100]))) (.cmp .ne (.call .bH (.cons (.const (.int 7)) (.cons (.idx (.loc 12) (.const (.int 1))) (.cons (.const (.int 0)) .nil)))) (.loc 12))) (.cons (.ret (.const (.bool false)))
.nil) .nil)
noncomputable def An:PS:=(.ret (.const (.bool true)))
noncomputable def Ao:aA:=.cons An .nil
noncomputable def Ap:aA:=.cons Am Ao
noncomputable def Aq:aA:=.cons Al Ap
noncomputable def Ar:aA:=.cons Ak Aq
noncomputable def Au:aA:=.cons Aj Ar
noncomputable def Av:aA:=.cons Ai Au
noncomputable def Aw:aA:=.cons Ah Av
noncomputable def qF:aA:=.cons Ag Aw
noncomputable def Ax:aA:=.cons qE qF
noncomputable def Ay:aA:=.cons qD Ax
noncomputable def qG:aA:=.cons qC Ay
noncomputable def Az:aA:=.cons Af qG
noncomputable def AA:aA:=.cons Ae Az
noncomputable def FG:aA:=.cons FE AA
noncomputable def FH:aA:=.cons FD FG
noncomputable def FI:aA:=.cons FC FH
noncomputable def FJ:aA:=.cons Fz FI
noncomputable def FK:aA:=.cons Fy FJ
noncomputable def FL:aA:=.cons t8 FK
noncomputable def FN:aA:=.cons t7 FL
noncomputable def FP:aA:=.cons Fx FN
noncomputable def FQ:aA:=.cons Fw FP
noncomputable def uY:aA:=.cons Fv FQ
noncomputable def MR:aY:={ params:=2,defaults:=[],locals:=14,body:=uY }
noncomputable def FR:PS:=(.assign 1 (.call .eQ (.cons (.loc 0) .nil)))
noncomputable def FT:PS:=(.assign 2 (.call .gq (.cons (.loc 0) .nil)))
noncomputable def FU:PS:=(.ite (.cmp .ne (.call .bH (.cons (.const (.int 8)) (.cons (.loc 1) (.cons (.const (.int 0)) .nil)))) (.tuple (.cons (.const (.str [116,111,108,100])) (.cons (.loc 2) .nil)))) (.cons (.ret (.const (.bool false)))
.nil) .nil)
noncomputable def FV:PS:=(.ite (.cmp .ne (.call .bH (.cons (.const (.int 0)) (.cons (.loc 2) (.cons (.const (.int 0)) .nil)))) (.tuple (.cons (.const (.str [116,111,108,100])) (.cons (.loc 1) .nil)))) (.cons (.ret (.const (.bool false)))
.nil) .nil)
noncomputable def FW:PS:=(.ret (.cmp .eq (.call .mapped (.cons (.loc 1) .nil)) (.cmp .eq (.slice (.loc 0) (.const .none) (.const (.int 6))) (.list (.cons (.const (.int 0)) (.cons (.const (.int 0)) (.cons (.const (.int 0)) (.cons (.const (.int 0)) (.cons (.const (.int 0)) (.cons (.const (.int 65535)) .nil))))))))))
noncomputable def FX:aA:=.cons FW .nil
noncomputable def F0:aA:=.cons FV FX
noncomputable def F1:aA:=.cons FU F0
noncomputable def F2:aA:=.cons FT F1
noncomputable def CW:aA:=.cons FR F2
noncomputable def MT:aY:={ params:=1,defaults:=[],locals:=3,body:=CW }
noncomputable def lU:PS:=(.assign 3 (.bin .add (.slice (.loc 0) (.const (.int 4)) (.const .none)) (.slice (.loc 0) (.const .none) (.const (.int 4)))))
noncomputable def lV:PS:=(.assign 4 (.slice (.call .eQ (.cons (.bin .add (.loc 3) (.loc 3)) .nil)) (.const .none) (.loc 1)))
noncomputable def uZ:PS:=(.assign 5 (.tuple (.cons (.const (.str [114,97,105,115,101,100])) (.cons (.const (.str [115,121,110,116,97,120])) .nil))))
noncomputable def u0:PS:=(.assign 6 (.tuple (.cons (.const (.str [114,97,105,115,101,100])) (.cons (.const (.str [118,97,108,117,101])) .nil))))
noncomputable def lW:PS:=(.ite (.cmp .eq (.loc 1) (.const (.int 4))) (.cons (.assign 5 (.tuple (.cons (.const (.str [116,111,108,100])) (.cons (.call .iK (.cons (.call .eZ (.cons (.loc 3) .nil)) .nil)) .nil))))
.nil) .nil)
noncomputable def lX:PS:=(.ite (.cmp .eq (.loc 1) (.const (.int 16))) (.cons (.assign 6 (.tuple (.cons (.const (.str [116,111,108,100])) (.cons (.call .gq (.cons (.loc 3) .nil)) .nil))))
.nil) .nil)
noncomputable def u3:PS:=(.ite (.or (.cmp .ne (.call .bH (.cons (.const (.int 8)) (.cons (.loc 4) (.cons (.const (.int 0)) .nil)))) (.loc 6)) (.cmp .ne (.call .bH (.cons (.const (.int 9)) (.cons (.loc 4) (.cons (.const (.int 10)) .nil)))) (.loc 6))) (.cons (.ret (.const (.bool false)))
.nil) .nil)
noncomputable def u5:PS:=(.ite (.cmp .ne (.call .bH (.cons (.const (.int 9)) (.cons (.loc 4) (.cons (.const (.int 2)) .nil)))) (.loc 5)) (.cons (.ret (.const (.bool false)))
.nil) .nil)
noncomputable def u6:PS:=(.ret (.cmp .eq (.call .bH (.cons (.const (.int 9)) (.cons (.loc 4) (.cons (.loc 2) .nil)))) (.call .hO (.cons (.loc 2) (.cons (.loc 5) (.cons (.loc 6) .nil))))))
noncomputable def u9:aA:=.cons u6 .nil
noncomputable def va:aA:=.cons u5 u9
noncomputable def vd:aA:=.cons u3 va
noncomputable def vf:aA:=.cons lX vd
noncomputable def vg:aA:=.cons lW vf
noncomputable def vh:aA:=.cons u0 vg
noncomputable def vj:aA:=.cons uZ vh
noncomputable def vk:aA:=.cons lV vj
noncomputable def qH:aA:=.cons lU vk
noncomputable def AB:aY:={ params:=3,defaults:=[],locals:=7,body:=qH }
noncomputable def IJ:PS:=(.assign 1 (.tuple (.cons (.const (.str [116,111,108,100])) (.cons (.call .iK (.cons (.list (.cons (.const (.int 0)) (.cons (.const (.int 0)) (.cons (.const (.int 0)) (.cons (.const (.int 0)) .nil))))) .nil)) .nil))))
noncomputable def IK:PS:=(.assign 2 (.tuple (.cons (.const (.str [116,111,108,100])) (.cons (.call .gq (.cons (.list (.cons (.const (.int 0)) (.cons (.const (.int 0)) (.cons (.const (.int 0)) (.cons (.const (.int 0)) (.cons (.const (.int 0)) (.cons (.const (.int 0)) (.cons (.const (.int 0)) (.cons (.const (.int 0)) .nil))))))))) .nil)) .nil))))
noncomputable def IL:PS:=(.ite (.or (.cmp .ne (.call .bH (.cons (.const (.int 10)) (.cons (.const .none) (.cons (.const (.int 2)) .nil)))) (.loc 1)) (.cmp .ne (.call .bH (.cons (.const (.int 10)) (.cons (.const .none) (.cons (.const (.int 10)) .nil)))) (.loc 2))) (.cons (.ret (.const (.bool false)))
.nil) .nil)
noncomputable def IM:PS:=(.ret (.cmp .eq (.call .bH (.cons (.const (.int 10)) (.cons (.const .none) (.cons (.loc 0) .nil)))) (.call .hO (.cons (.loc 0) (.cons (.loc 1) (.cons (.loc 2) .nil))))))
noncomputable def IQ:aA:=.cons IM .nil
noncomputable def IU:aA:=.cons IL IQ
noncomputable def IV:aA:=.cons IK IU
noncomputable def IW:aA:=.cons IJ IV
noncomputable def QY:aY:={ params:=1,defaults:=[],locals:=3,body:=IW }
noncomputable def oP:PS:=(.own 2 (.comp (.prim .str (.cons (.loc 5) .nil)) 5 (.val (.loc 1)) (.const (.bool true))))
noncomputable def oQ:PS:=(.assign 3 (.bin .mod (.loc 0) (.const (.int 12))))
noncomputable def oR:PS:=(.assign 4 (.bin .mod (.bin .fdiv (.loc 0) (.const (.int 12))) (.const (.int 4))))
noncomputable def oS:PS:=(.ite (.cmp .eq (.loc 3) (.const (.int 1))) (.cons (.setItem 2 (.loc 4) (.bin .add (.const (.str [48])) (.idx (.loc 2) (.loc 4))))
.nil) (.cons (.ite (.cmp .eq (.loc 3) (.const (.int 2))) (.cons (.setItem 2 (.loc 4) (.prim .str (.cons (.bin .add (.idx (.loc 1) (.loc 4)) (.const (.int 256))) .nil)))
.nil) (.cons (.ite (.cmp .eq (.loc 3) (.const (.int 3))) (.cons (.setItem 2 (.loc 4) (.const (.str [])))
.nil) (.cons (.ite (.cmp .eq (.loc 3) (.const (.int 4))) (.cons (.append 2 (.const (.str [55])))
.nil) (.cons (.ite (.cmp .eq (.loc 3) (.const (.int 5))) (.cons (.own 2 (.slice (.loc 2) (.const .none) (.const (.int 3))))
.nil) (.cons (.ite (.cmp .eq (.loc 3) (.const (.int 6))) (.cons (.setItem 2 (.loc 4) (.bin .add (.const (.str [32])) (.idx (.loc 2) (.loc 4))))
.nil) (.cons (.ite (.cmp .eq (.loc 3) (.const (.int 7))) (.cons (.setItem 2 (.loc 4) (.bin .add (.idx (.loc 2) (.loc 4)) (.const (.str [97]))))
.nil) (.cons (.ite (.cmp .eq (.loc 3) (.const (.int 8))) (.cons (.setItem 2 (.loc 4) (.bin .add (.const (.str [43])) (.idx (.loc 2) (.loc 4))))
.nil) .nil)
.nil))
.nil))
.nil))
.nil))
.nil))
.nil))
.nil))
noncomputable def xA:PS:=(.ret (.aG .join (.const (.str [46])) (.cons (.loc 2) .nil)))
noncomputable def xB:aA:=.cons xA .nil
noncomputable def xC:aA:=.cons oS xB
noncomputable def xD:aA:=.cons oR xC
noncomputable def xE:aA:=.cons oQ xD
noncomputable def t9:aA:=.cons oP xE
noncomputable def F3:aY:={ params:=2,defaults:=[],locals:=6,body:=t9 }
noncomputable def iu:aA:=(.cons (.assign 15 (.glob cN))
(.cons (.ite (.cmp .eq (.bin .mod (.loc 8) (.const (.int 2))) (.const (.int 1))) (.cons (.assign 15 (.glob qn))
.nil) .nil)
(.cons (.append 13 (.call .iJ (.cons (.loc 14) (.cons (.bin .add (.bin .mod (.bin .fdiv (.loc 8) (.const (.int 2))) (.const (.int 4))) (.const (.int 1))) (.cons (.loc 15) .nil)))))
(.cons (.assign 8 (.bin .fdiv (.loc 8) (.const (.int 8))))
.nil))))
noncomputable def vm:PS:=(.assign 3 (.bin .mod (.call .qf (.cons (.loc 0) (.cons (.loc 1) .nil))) (.const (.int 8))))
noncomputable def vn:PS:=(.assign 4 (.bin .mod (.call .qf (.cons (.loc 0) (.cons (.bin .add (.loc 1) (.const (.int 1))) .nil))) (.const (.int 9))))
noncomputable def vo:PS:=(.assign 5 (.bin .mod (.call .qf (.cons (.loc 0) (.cons (.bin .add (.loc 1) (.const (.int 2))) .nil))) (.const (.int 9))))
noncomputable def vp:PS:=(.assign 6 (.prim .min (.cons (.loc 4) (.cons (.loc 5) .nil))))
noncomputable def vq:PS:=(.assign 7 (.prim .max (.cons (.loc 4) (.cons (.loc 5) .nil))))
noncomputable def vr:PS:=(.assign 8 (.bin .mod (.call .qf (.cons (.loc 0) (.cons (.bin .add (.loc 1) (.const (.int 3))) .nil))) (.const (.int 16777216))))
noncomputable def vt:PS:=(.assign 9 (.bin .mod (.call .qf (.cons (.loc 0) (.cons (.bin .add (.loc 1) (.const (.int 4))) .nil))) (.const (.int 20))))
noncomputable def vu:PS:=(.assign 10 (.bin .mod (.call .qf (.cons (.loc 0) (.cons (.bin .add (.loc 1) (.const (.int 5))) .nil))) (.const (.int 8))))
noncomputable def vv:PS:=(.assign 11 (.bin .mod (.call .qf (.cons (.loc 0) (.cons (.bin .add (.loc 1) (.const (.int 6))) .nil))) (.const (.int 12))))
noncomputable def vw:PS:=(.assign 12 (.bin .mod (.call .qf (.cons (.loc 0) (.cons (.bin .add (.loc 1) (.const (.int 7))) .nil))) (.const (.int 96))))
noncomputable def sP:PS:=(.own 13 (.list .nil))
noncomputable def sQ:PS:=(.for 14 (.val (.loc 2)) iu)
noncomputable def kg:PS:=(.ite (.cmp .eq (.loc 9) (.const (.int 1))) (.cons (.setItem 13 (.loc 10) (.call .iJ (.cons (.idx (.loc 2) (.loc 10)) (.cons (.const (.int 5)) (.cons (.glob cN) .nil)))))
.nil) (.cons (.ite (.cmp .eq (.loc 9) (.const (.int 2))) (.cons (.setItem 13 (.loc 10) (.bin .add (.slice (.idx (.loc 13) (.loc 10)) (.const (.int 1)) (.const .none)) (.const (.str [103]))))
.nil) (.cons (.ite (.cmp .eq (.loc 9) (.const (.int 3))) (.cons (.setItem 13 (.loc 10) (.const (.str [])))
.nil) (.cons (.ite (.cmp .eq (.loc 9) (.const (.int 4))) (.cons (.setItem 13 (.loc 10) (.bin .add (.const (.str [32])) (.idx (.loc 13) (.loc 10))))
.nil) (.cons (.ite (.cmp .eq (.loc 9) (.const (.int 5))) (.cons (.setItem 13 (.loc 10) (.call .iK (.cons (.call .eZ (.cons (.list (.cons (.idx (.loc 2) (.loc 10)) (.cons (.idx (.loc 2) (.loc 10)) .nil))) .nil)) .nil)))
.nil) .nil)
.nil))
.nil))
.nil))
.nil))
noncomputable def kj:PS:=(.ite (.cmp .eq (.bin .mod (.loc 12) (.const (.int 2))) (.const (.int 1))) (.cons (.own 13 (.bin .add (.slice (.loc 13) (.const .none) (.const (.int 6))) (.list (.cons (.call .gb (.cons (.bin .fdiv (.loc 12) (.const (.int 2))) (.cons (.call .eZ (.cons (.slice (.loc 2) (.const (.int 6)) (.const .none)) .nil)) .nil))) .nil))))
.nil) .nil)
noncomputable def kl:PS:=(.ite (.cmp .lt (.loc 3) (.const (.int 2))) (.cons (.assign 16 (.aG .join (.const (.str [58])) (.cons (.loc 13) .nil)))
.nil) (.cons (.ite (.cmp .lt (.loc 3) (.const (.int 5))) (.cons (.assign 16 (.bin .add (.bin .add (.aG .join (.const (.str [58])) (.cons (.slice (.loc 13) (.const .none) (.loc 6)) .nil)) (.const (.str [58,58]))) (.aG .join (.const (.str [58])) (.cons (.slice (.loc 13) (.loc 7) (.const .none)) .nil))))
.nil) (.cons (.ite (.and (.cmp .eq (.loc 3) (.const (.int 5))) (.cmp .lt (.loc 4) (.loc 5))) (.cons (.assign 16 (.aG .join (.const (.str [58])) (.cons (.bin .add (.slice (.loc 13) (.const .none) (.loc 6)) (.slice (.loc 13) (.loc 7) (.const .none))) .nil)))
.nil) (.cons (.ite (.cmp .eq (.loc 3) (.const (.int 5))) (.cons (.assign 16 (.aG .join (.const (.str [58])) (.cons (.bin .add (.loc 13) (.slice (.loc 13) (.const .none) (.loc 6))) .nil)))
.nil) (.cons (.ite (.cmp .eq (.loc 3) (.const (.int 6))) (.cons (.assign 16 (.bin .add (.bin .add (.bin .add (.bin .add (.aG .join (.const (.str [58])) (.cons (.slice (.loc 13) (.const .none) (.loc 6)) .nil)) (.const (.str [58,58]))) (.aG .join (.const (.str [58])) (.cons (.slice (.loc 13) (.loc 6) (.loc 7)) .nil))) (.const (.str [58,58]))) (.aG .join (.const (.str [58])) (.cons (.slice (.loc 13) (.loc 7) (.const .none)) .nil))))
.nil) (.cons (.assign 16 (.bin .add (.bin .add (.aG .join (.const (.str [58])) (.cons (.slice (.loc 13) (.const .none) (.loc 6)) .nil)) (.const (.str [58,58,58]))) (.aG .join (.const (.str [58])) (.cons (.slice (.loc 13) (.loc 7) (.const .none)) .nil))))
.nil))
.nil))
.nil))
.nil))
.nil))
noncomputable def km:PS:=(.ite (.cmp .eq (.loc 9) (.const (.int 6))) (.cons (.assign 16 (.bin .add (.loc 16) (.const (.str [58]))))
.nil) (.cons (.ite (.cmp .eq (.loc 9) (.const (.int 7))) (.cons (.assign 16 (.bin .add (.const (.str [58])) (.loc 16)))
.nil) .nil)
.nil))
noncomputable def ko:PS:=(.ite (.cmp .eq (.loc 11) (.const (.int 1))) (.cons (.assign 16 (.bin .add (.loc 16) (.const (.str [37]))))
.nil) (.cons (.ite (.cmp .eq (.loc 11) (.const (.int 2))) (.cons (.assign 16 (.bin .add (.loc 16) (.const (.str [37,101,116,104,48]))))
.nil) (.cons (.ite (.cmp .eq (.loc 11) (.const (.int 3))) (.cons (.assign 16 (.bin .add (.loc 16) (.const (.str [37,97,37,98]))))
.nil) (.cons (.ite (.cmp .eq (.loc 11) (.const (.int 4))) (.cons (.assign 16 (.bin .add (.loc 16) (.const (.str [37,49,58,50]))))
.nil) .nil)
.nil))
.nil))
.nil))
noncomputable def sR:PS:=(.ret (.loc 16))
noncomputable def sS:aA:=.cons sR .nil
noncomputable def sT:aA:=.cons ko sS
noncomputable def sU:aA:=.cons km sT
noncomputable def sV:aA:=.cons kl sU
noncomputable def sW:aA:=.cons kj sV
noncomputable def sX:aA:=.cons kg sW
noncomputable def kr:aA:=.cons sQ sX
noncomputable def sY:aA:=.cons sP kr
noncomputable def vx:aA:=.cons vw sY
noncomputable def vy:aA:=.cons vv vx
noncomputable def vz:aA:=.cons vu vy
noncomputable def vA:aA:=.cons vt vz
noncomputable def vB:aA:=.cons vr vA
noncomputable def vC:aA:=.cons vq vB
noncomputable def vD:aA:=.cons vp vC
noncomputable def vE:aA:=.cons vo vD
noncomputable def vF:aA:=.cons vn vE
noncomputable def kR:aA:=.cons vm vF
noncomputable def AD:aY:={ params:=3,defaults:=[],locals:=17,body:=kR }
noncomputable def nB:aA:=(.cons (.assign 1 (.bin .sub (.loc 1) (.const (.int 1))))
(.cons (.assign 2 (.bin .add (.loc 2) (.idx (.glob dT) (.bin .mod (.loc 1) (.prim .len (.cons (.glob dT) .nil))))))
(.cons (.assign 1 (.bin .fdiv (.loc 1) (.prim .len (.cons (.glob dT) .nil))))
.nil)))
noncomputable def F4:PS:=(.assign 1 (.bin .mod (.loc 0) (.bin .pow (.prim .len (.cons (.glob dT) .nil)) (.const (.int 46)))))
noncomputable def F5:PS:=(.assign 2 (.const (.str [])))
noncomputable def F6:PS:=(.while (.and (.cmp .gt (.loc 1) (.const (.int 0))) (.cmp .lt (.prim .len (.cons (.loc 2) .nil)) (.const (.int 45)))) nB)
noncomputable def F7:PS:=(.ret (.loc 2))
noncomputable def F8:aA:=.cons F7 .nil
noncomputable def F9:aA:=.cons F6 F8
noncomputable def Ga:aA:=.cons F5 F9
noncomputable def CX:aA:=.cons F4 Ga
noncomputable def MV:aY:={ params:=1,defaults:=[],locals:=3,body:=CX }
noncomputable def CY:aA:=(.cons (.ite (.not (.call .ke (.cons (.loc 9) (.cons (.loc 2) .nil)))) (.cons (.ret (.const (.bool false)))
.nil) .nil)
.nil)
noncomputable def MX:PS:=(.assign 1 (.call .hM (.cons (.loc 0) .nil)))
noncomputable def MY:PS:=(.assign 2 (.bin .sub (.bin .mod (.call .qf (.cons (.loc 0) (.cons (.const (.int 31)) .nil))) (.const (.int 16))) (.const (.int 2))))
noncomputable def MZ:PS:=(.assign 3 (.bin .mod (.call .qf (.cons (.loc 0) (.cons (.const (.int 32)) .nil))) (.const (.int 24))))
noncomputable def CZ:PS:=(.ite (.cmp .gt (.loc 3) (.const (.int 20))) (.cons (.assign 3 (.const (.int 4)))
.nil) .nil)
noncomputable def M0:PS:=(.ite (.not (.call .qg (.cons (.loc 1) .nil))) (.cons (.ret (.const (.bool false)))
.nil) .nil)
noncomputable def M3:PS:=(.ite (.or (.not (.call .fN (.cons (.loc 1) (.cons (.loc 3) (.cons (.loc 2) .nil))))) (.not (.call .zt (.cons (.loc 2) .nil)))) (.cons (.ret (.const (.bool false)))
.nil) .nil)
noncomputable def M4:PS:=(.assign 4 (.call .eT (.cons (.loc 0) (.cons (.const (.int 9)) (.cons (.loc 1) .nil)))))
noncomputable def M5:PS:=(.assign 5 (.call .eT (.cons (.loc 0) (.cons (.const (.int 17)) (.cons (.loc 1) .nil)))))
noncomputable def M6:PS:=(.assign 6 (.call .qh (.cons (.call .qf (.cons (.loc 0) (.cons (.const (.int 25)) .nil))) .nil)))
noncomputable def M7:PS:=(.assign 7 (.comp (.bin .mod (.call .qf (.cons (.loc 0) (.cons (.loc 12) .nil))) (.const (.int 256))) 12 (.sM (.const (.int 26)) (.const (.int 30)) 1) (.const (.bool true))))
noncomputable def IX:PS:=(.assign 8 (.call .gb (.cons (.bin .mod (.call .qf (.cons (.loc 0) (.cons (.const (.int 30)) .nil))) (.const (.int 48))) (.cons (.loc 7) .nil))))
noncomputable def IY:PS:=(.for 9 (.val (.list (.cons (.loc 4) (.cons (.loc 5) (.cons (.loc 6) (.cons (.loc 8) .nil)))))) CY)
noncomputable def IZ:PS:=(.assign 10 (.call .gF (.cons (.loc 4) .nil)))
noncomputable def I0:PS:=(.assign 11 (.call .gF (.cons (.loc 5) .nil)))
noncomputable def xF:PS:=(.ite (.and (.cmp .lO (.loc 10) (.const .none)) (.cmp .lO (.loc 11) (.const .none))) (.cons (.ite (.cmp .ne (.cmp .eq (.call .eY (.cons (.loc 4) .nil)) (.call .eY (.cons (.loc 5) .nil))) (.cmp .eq (.loc 10) (.loc 11))) (.cons (.ret (.const (.bool false)))
.nil) .nil)
.nil) .nil)
noncomputable def I3:PS:=(.ret (.const (.bool true)))
noncomputable def I4:aA:=.cons I3 .nil
noncomputable def I5:aA:=.cons xF I4
noncomputable def I6:aA:=.cons I0 I5
noncomputable def I7:aA:=.cons IZ I6
noncomputable def I8:aA:=.cons IY I7
noncomputable def I9:aA:=.cons IX I8
noncomputable def M8:aA:=.cons M7 I9
noncomputable def M9:aA:=.cons M6 M8
noncomputable def Nb:aA:=.cons M5 M9
noncomputable def Nc:aA:=.cons M4 Nb
noncomputable def Nf:aA:=.cons M3 Nc
noncomputable def Ng:aA:=.cons M0 Nf
noncomputable def Nh:aA:=.cons CZ Ng
noncomputable def Ni:aA:=.cons MZ Nh
noncomputable def Nj:aA:=.cons MY Ni
noncomputable def PK:aA:=.cons MX Nj
noncomputable def Tg:aY:={ params:=1,defaults:=[],locals:=13,body:=PK }
noncomputable def defs:Fn->aY
 | .fi=>Mw
 | .eE=>Mx
 | .iW=>Iu
 | .fM=>My
 | .qe=>Mz
 | .bL=>CL
 | .mapped=>Iw
 | .iX=>Iy
 | .uQ=>QV
 | .uR=>QX
 | .oK=>MA
 | .multi=>MC
 | .iY=>IB
 | .oM=>MD
 | .eY=>IC
 | .qf=>Tf
 | .hM=>EH
 | .eQ=>EI
 | .iJ=>MJ
 | .iK=>MK
 | .eZ=>IE
 | .gq=>IG
 | .lM=>ML
 | .iZ=>IH
 | .lN=>MN
 | .gF=>MP
 | .bH=>MQ
 | .hO=>II
 | .ke=>MR
 | .qg=>MT
 | .fN=>AB
 | .zt=>QY
 | .gb=>F3
 | .eT=>AD
 | .qh=>MV
 | .law=>Tg
end Mine.Internal
section
namespace Mine.Internal.P
theorem R.bN {α β:Type} (a:α) (f:α->R β):(R.ok a).bind f=f a:=rfl
theorem R.QZ {α:Type} (a:α) (J:Ρ) (k:α->SR):(R.ok a).on J k=k a:=rfl
theorem xG (m k:Nat):Int.fdiv (m:Int) (OfNat.ofNat k)=((m / k:Nat):Int):=by
 show Int.fdiv (m:Int) (k:Int)=_
 rw[Int.fdiv_eq_ediv_of_nonneg _ (Int.natCast_nonneg k)];rfl
theorem lY (m k:Nat):Int.fmod (m:Int) (OfNat.ofNat k)=((m % k:Nat):Int):=by
 show Int.fmod (m:Int) (k:Int)=_
 rw[Int.fmod_eq_emod_of_nonneg _ (Int.natCast_nonneg k)];rfl
theorem Q0 (m:Nat):Int.fmod (m:Int) 2=((m % 2:Nat):Int):=lY m 2
theorem Q1 (m:Nat):Int.fmod (m:Int) 4=((m % 4:Nat):Int):=lY m 4
theorem Nk (m:Nat):Int.fdiv (m:Int) 12=((m / 12:Nat):Int):=xG m 12
theorem Nm (m:Nat):Int.fmod (m:Int) 12=((m % 12:Nat):Int):=lY m 12
theorem xH (z:Int) (k:Nat) (hk:0<k):∃ m:Nat,Int.fmod z (k:Int)=(m:Int)/\m<k:=by
 rw[Int.fmod_eq_emod_of_nonneg _ (Int.natCast_nonneg k)]
 have h1:=Int.emod_nonneg z (show (k:Int)≠0 by lia)
 have h2:=Int.emod_lt_of_pos z (show (0:Int)<(k:Int) by lia)
 exact⟨(z % (k:Int)).toNat,by lia,by lia⟩
noncomputable abbrev vi (n:Nat):V:=.int (n:Int)
noncomputable abbrev vl (l:List Nat):List V:=l.map vi
section
variable (i aaH:Int) (b c:Bool) (s t:List Nat) (xs ys:List V) (v w:V)
theorem Q2:tE (.bool b) (.bool c)=.ok (decide (b=c)):=rfl
theorem PL:tE (.int i) (.int aaH)=.ok (decide (i=aaH)):=rfl
theorem PN:tE (.str s) (.str t)=.ok (decide (s=t)):=rfl
theorem Nn:tE (.bytes s) (.bytes t)=.ok (decide (s=t)):=rfl
theorem Q3:V.eq (.list xs) (.list ys)=if xs.length=ys.length then kM xs ys else .ok false:=rfl
theorem Np:V.eq (.tuple xs) (.tuple ys)=if xs.length=ys.length then kM xs ys else .stuck:=rfl
theorem vG:pE .eq v w=(V.eq v w).bind fun x=>.ok (.bool x):=rfl
theorem Wg:pE .ne v w=(V.eq v w).bind fun x=>.ok (.bool !x):=rfl
theorem xI:bq .encode [.str s]=R.guard (ascii s) (.ok (.bytes s)):=rfl
theorem Ja:bq .decode [.bytes s]=R.guard (!s.isEmpty&&ascii s) (.ok (.str s)):=rfl
theorem Gb (k:Nat):bq .split [.str s,.str [k]]=R.guard (decide (s.length<=lim)) (.ok (.list ((ag k s).map V.str))):=rfl
theorem ua (k:Nat):bq .split [.bytes s,.bytes [k]]=R.guard (decide (s.length<=lim)) (.ok (.list ((ag k s).map V.bytes))):=rfl
end
theorem strs_map:∀ l:List (List Nat),strs? (l.map V.str)=some l:=by
 intro z0
 induction z0 with
 | nil=>exact  rfl
 | cons x r ih=>rw[List.map_cons,w5,ih];rfl
theorem AF:∀ l:List (List Nat),fq (l.map V.bytes)=some l:=by
 intro z0
 induction z0 with
 | nil=>exact  rfl
 | cons x r ih=>rw[List.map_cons,qj,ih];rfl
theorem jd (s:List Nat) (l:List (List Nat)):bq .join [.str s,.list (l.map V.str)]=R.guard (decide (bf l+s.length*l.length<=lim)) (.ok (.str (a9 s l))):=by
 unfold bq;dsimp only;rw[strs_map]
theorem xJ (s:List Nat) (l:List (List Nat)):bq .join [.bytes s,.list (l.map V.bytes)]=R.guard (decide (2<=l.length)&&decide (bf l+s.length*l.length<=lim)) (.ok (.bytes (a9 s l))):=by
 unfold bq;dsimp only;rw[AF]
theorem ej {xs:List V}{p:Nat}{v:V} (h:xs[p]?=some v):ib (.list xs) (.int (p:Int))=.ok v:=by
 unfold ib;dsimp only
 rw[if_pos (Int.natCast_nonneg p),Int.toNat_natCast,h]
theorem Gd {xs:List V}{p:Nat}{v:V} (h:xs[p]?=some v):ib (.tuple xs) (.int (p:Int))=.ok v:=by
 unfold ib;dsimp only
 rw[if_pos (Int.natCast_nonneg p),Int.toNat_natCast,h]
theorem vH {xs:List Nat}{p:Nat}{v:Nat} (h:xs[p]?=some v):ib (.str xs) (.int (p:Int))=.ok (.str [v]):=by
 unfold ib;dsimp only
 rw[if_pos (Int.natCast_nonneg p),Int.toNat_natCast,h]
theorem f7 {α β:Type}{m:R α}{f:α->R β}{a:α}{r:R β} (h:m=.ok a) (k:f a=r):m.bind f=r:=by subst h;exact k
theorem xK {α:Type}{m:R α}{J:Ρ}{f:α->SR}{a:α}{z:SR} (h:m=.ok a) (k:f a=z):m.on J f=z:=by subst h;exact k
theorem XA {α:Type}{m:R α}{J:Ρ}{f:α->SR}{x:dB} (h:m=.exc x):m.on J f=.exc x J:=by subst h;rfl
theorem Th {m:SR}{ρ':Ρ}{f:Ρ->SR}{z:SR} (h:m=.next ρ') (k:f ρ'=z):m.then f=z:=by subst h;exact k
theorem XB {m:SR}{v:V}{f:Ρ->SR} (h:m=.ret v):m.then f=.ret v:=by subst h;rfl
theorem XC {m:SR}{x:dB}{ρ':Ρ}{f:Ρ->SR} (h:m=.exc x ρ'):m.then f=.exc x ρ':=by subst h;rfl
theorem Gf {α:Type}{c:Bool}{r z:R α} (h:c=true) (k:r=z):R.guard c r=z:=by subst h;exact k
theorem Jb:∃ l:List Int,jJ=.tuple (l.map V.int)/\l.length=33:=by
 refine⟨[86063,6,0,0,4,0,0,4111,5,2,5,7,2109825,0,3,0,0,0,0,3,1042,0,2,0,1,36353,224,10,0,255,0,12,4],rfl,rfl⟩
section
variable {D:Fn->List V->R V}{J:Ρ}
theorem E.bin {op:QG}{a b:PE}{x y:V}{r:R V} (ha:ak D a J=.ok x) (hb:ak D b J=.ok y) (h:sN op x y=r):ak D (.bin op a b) J=r:=f7 ha (f7 hb h)
theorem E.cmp {op:PH}{a b:PE}{x y:V}{r:R V} (ha:ak D a J=.ok x) (hb:ak D b J=.ok y) (h:pE op x y=r):ak D (.cmp op a b) J=r:=f7 ha (f7 hb h)
theorem E.not {a:PE}{x:V}{b:Bool} (ha:ak D a J=.ok x) (h:x.truth=.ok b):ak D (.not a) J=.ok (.bool !b):=f7 ha (f7 h rfl)
theorem E.Jc {a b:PE}{x:V}{r:R V} (ha:ak D a J=.ok x) (h:x.truth=.ok true) (hb:ak D b J=r):ak D (.and a b) J=r:=f7 ha (f7 h hb)
theorem E.Jd {a b:PE}{x:V} (ha:ak D a J=.ok x) (h:x.truth=.ok false):ak D (.and a b) J=.ok x:=f7 ha (f7 h rfl)
theorem E.Q4 {a b:PE}{x:V} (ha:ak D a J=.ok x) (h:x.truth=.ok true):ak D (.or a b) J=.ok x:=f7 ha (f7 h rfl)
theorem E.Nq {a b:PE}{x:V}{r:R V} (ha:ak D a J=.ok x) (h:x.truth=.ok false) (hb:ak D b J=r):ak D (.or a b) J=r:=f7 ha (f7 h hb)
theorem E.call {f:Fn}{as:fZ}{vs:List V}{r:R V} (ha:cS D as J=.ok vs) (h:D f vs=r):ak D (.call f as) J=r:=f7 ha h
theorem E.prim {p:Prim}{as:fZ}{vs:List V}{r:R V} (ha:cS D as J=.ok vs) (h:bq p vs=r):ak D (.prim p as) J=r:=f7 ha h
theorem E.aG {p:Prim}{o:PE}{as:fZ}{x:V}{vs:List V}{r:R V} (ho:ak D o J=.ok x) (ht:x.i6=true) (ha:cS D as J=.ok vs) (h:bq p (x::vs)=r):ak D (.aG p o as) J=r:=f7 ho (Gf ht (f7 ha h))
theorem E.idx {a i:PE}{x y:V}{r:R V} (ha:ak D a J=.ok x) (hi:ak D i J=.ok y) (hg:(a.isName||x.i6)=true) (h:ib x y=r):ak D (.idx a i) J=r:=f7 ha (f7 hi (Gf hg h))
theorem E.slice {a lo hi:PE}{x l h:V}{r:R V} (ha:ak D a J=.ok x) (hl:ak D lo J=.ok l) (hh:ak D hi J=.ok h) (hg:(a.isName||x.i6)=true) (e:aO x l h=r):ak D (.slice a lo hi) J=r:=f7 ha (f7 hl (f7 hh (Gf hg e)))
theorem E.one {e:PE}{v:V} (h:ak D e J=.ok v):cS D (.cons e .nil) J=.ok [v]:=f7 h rfl
theorem E.two {e f:PE}{v u:V} (h:ak D e J=.ok v) (k:ak D f J=.ok u):cS D (.cons e (.cons f .nil)) J=.ok [v,u]:=f7 h (f7 (E.one k) rfl)
theorem E.comp {elt c:PE}{k:Nat}{it:uT}{xs ys:List V} (hi:gG D it J=.ok xs) (hl:xs.length<=lim)
  (h:eG (fun x=>(ak D c (J.set k (some x))).bind fun t=>t.truth.bind fun b=>if b then (ak D elt (J.set k (some x))).bind fun y=>.ok (some y) else .ok Option.none) xs=.ok ys):ak D (.comp elt k it c) J=.ok (.list ys):=f7 hi (Gf (decide_eq_true hl) (f7 h rfl))
theorem E.map {elt:PE}{k:Nat}{it:uT}{xs:List V}{f:V->V} (hi:gG D it J=.ok xs) (hl:xs.length<=lim) (h:∀ x∈xs,ak D elt (J.set k (some x))=.ok (f x)):ak D (.comp elt k it (.const (.bool true))) J=.ok (.list (xs.map f)):=by
 refine E.comp hi hl ?_
 clear hl hi
 induction xs with
 | nil=>rfl
 | cons x r ih=>
  rw[lR,ih fun y hy=>h y (.tail _ hy)]
  show (match (ak D elt (J.set k (some x))).bind fun y=>R.ok (some y) with | .ok o=>_ | _=>_)=_
  rw[h x (.head _)];rfl
theorem S.assign {i:Nat}{e:PE}{v:V} (h:ak D e J=.ok v):bQ D (.assign i e) J=.next (J.set i (some v)):=xK h rfl
theorem S.own {i:Nat}{e:PE}{l:List V} (h:ak D e J=.ok (.list l)):bQ D (.own i e) J=.next (J.set i (some (.list l))):=xK h rfl
theorem S.aE {c:PE}{A B:aA}{b:Bool} (e:ak D c J=.ok (.bool b)) (h:b=true):bQ D (.ite c A B) J=aj D A J:=xK e (xK (congrArg R.ok h) rfl)
theorem S.cO {c:PE}{A B:aA}{b:Bool} (e:ak D c J=.ok (.bool b)) (h:b=false):bQ D (.ite c A B) J=aj D B J:=xK e (xK (congrArg R.ok h) rfl)
theorem S.Ti {c:PE}{A B:aA}{v:V} (e:ak D c J=.ok v) (h:v.truth=.ok true):bQ D (.ite c A B) J=aj D A J:=xK e (xK h rfl)
theorem S.setItem {i:Nat}{aaH e:PE}{v:V}{xs:List V}{k:Nat} (h:ak D e J=.ok v) (hi:J[i]?=some (some (.list xs))) (hj:ak D aaH J=.ok (.int k)) (hk:k<xs.length) (hf:v.gu=true):bQ D (.setItem i aaH e) J=.next (J.set i (some (.list (xs.set k v)))):=by
 refine xK h ?_
 rw[hi]
 exact xK hj (if_pos ⟨Int.natCast_nonneg k,Int.ofNat_lt.mpr hk,hf⟩)
theorem S.append {i:Nat}{e:PE}{v:V}{xs:List V} (hi:J[i]?=some (some (.list xs))) (h:ak D e J=.ok v) (hl:xs.length<lim) (hf:v.gu=true):bQ D (.append i e) J=.next (J.set i (some (.list (xs++[v])))):=by
 show (match J[i]? with | some (some (.list xs))=>(ak D e J).on J fun v=>if xs.length<lim/\v.gu=true then SR.next (J.set i (some (.list (xs++[v])))) else .stuck | _=>SR.stuck)=_
 rw[hi]
 exact xK h (if_pos ⟨hl,hf⟩)
theorem S.for {i:Nat}{it:uT}{b:aA}{xs:List V}{r:SR} (hi:gG D it J=.ok xs) (hl:xs.length<=lim) (h:dg i (aj D b) xs J=r):bQ D (.for i it b) J=r:=xK hi ((if_pos hl).trans h)
theorem S.ret {e:PE}{v:V} (h:ak D e J=.ok v):bQ D (.ret e) J=.ret v:=xK h rfl
theorem S.Wh {e:PE}{x:dB} (h:ak D e J=.exc x):bQ D (.ret e) J=.exc x J:=XA h
theorem S.C0 {i:Nat}{e:PE}{x:dB} (h:ak D e J=.exc x):bQ D (.assign i e) J=.exc x J:=XA h
theorem S.one {s:PS}{ρ':Ρ} (h:bQ D s J=.next ρ'):aj D (.cons s .nil) J=.next ρ':=Th h rfl
theorem S.seq {s:PS}{r:aA}{ρ':Ρ}{z:SR} (h:bQ D s J=.next ρ') (k:aj D r ρ'=z):aj D (.cons s r) J=z:=Th h k
theorem S.tail {P:SR->Prop}{s:PS}{r:aA}{ρ':Ρ} (h:bQ D s J=.next ρ') (k:P (aj D r ρ')):P (aj D (.cons s r) J):=(show aj D (.cons s r) J=aj D r ρ' from Th h rfl) ▸ k
theorem S.end {s:PS}{r:aA}{v:V} (h:bQ D s J=.ret v):aj D (.cons s r) J=.ret v:=XB h
theorem S.fu {s:PS}{r:aA}{x:dB}{ρ':Ρ} (h:bQ D s J=.exc x ρ'):aj D (.cons s r) J=.exc x ρ':=XC h
theorem S.val {p:aA}{v:V} (h:aj D p J=.ret v):(aj D p J).value=.ok v:=congrArg SR.value h
theorem S.kS {p:aA}{x:dB}{ρ':Ρ} (h:aj D p J=.exc x ρ'):(aj D p J).value=.exc x:=congrArg SR.value h
theorem S.last {s:PS}:aj D (.cons s .nil) J=bQ D s J:=by show (bQ D s J).then (aj D .nil)=_;cases bQ D s J<;>rfl
theorem S.qI {P:SR->Prop}{c:PE}{A B:aA}{p:Prop} [Decidable p] (e:ak D c J=.ok (.bool (decide p))) (hA:p->P (aj D A J)) (hB:¬ p->P (aj D B J)):P (bQ D (.ite c A B) J):=by
 by_cases h:p
 ·rw[S.aE e (decide_eq_true h)];exact hA h
 ·rw[S.cO e (decide_eq_false h)];exact hB h
theorem S.bW {P:SR->Prop}{i:Nat}{aaH:Int}{k:Nat}{A B:aA} (hi:ak D (.loc i) J=.ok (.int k)) (hA:P (aj D A J)) (hB:P (aj D B J)):P (bQ D (.ite (.cmp .eq (.loc i) (.const (.int aaH))) A B) J):=
 S.qI (p:=(k:Int)=aaH) (E.cmp hi rfl rfl) (fun O=>hA) fun O=>hB
theorem S.elif {P:SR->Prop}{s:PS} (h:P (bQ D s J)):P (aj D (.cons s .nil) J):=S.last ▸ h
theorem Nr {i:Nat}{v:V} (h:ak D (.loc i) J=.ok v):J[i]?=some (some v):=by
 revert h
 show (match J[i]? with | some (some v)=>R.ok v | _=>.stuck)=_->_
 cases J[i]? with
 | none=>intro h;contradiction
 | some o=>
  cases o with
  | none=>intro h;contradiction
  | some w=>intro h;injection h with h;rw[h]
theorem S.Je {a i:Nat}{aaH e:PE}{u:List Nat}{W:List (List Nat)} (h:ak D e J=.ok (.str u)) (ha:ak D (.loc a) J=.ok (.list (W.map V.str))) (hj:ak D aaH J=.ok (.int i)) (hi:i<W.length):aj D (.cons (.setItem a aaH e) .nil) J=.next (J.set a (some (.list ((W.set i u).map V.str)))):=by
 rw[S.last,S.setItem h (Nr ha) hj (by rw[List.length_map];exact hi) rfl,List.map_set]
theorem F.cons {i:Nat}{b:aA}{x:V}{r:List V}{ρ':Ρ}{z:SR} (h:aj D b (J.set i (some x))=.next ρ') (k:dg i (aj D b) r ρ'=z):dg i (aj D b) (x::r) J=z:=Th h k
theorem F.stop {i:Nat}{b:aA}{x:V}{r:List V}{v:V} (h:aj D b (J.set i (some x))=.ret v):dg i (aj D b) (x::r) J=.ret v:=XB h
theorem F.PQ {i:Nat}{b:aA}{x:V}{r:List V}{e:dB}{ρ':Ρ} (h:aj D b (J.set i (some x))=.exc e ρ'):dg i (aj D b) (x::r) J=.exc e ρ':=XC h
theorem W.turn {c:PE}{b:aA}{n:Nat}{ρ':Ρ}{z:SR} (hc:(ak D c J).bind V.truth=.ok true) (h:aj D b J=.next ρ') (k:dk (fun J=>(ak D c J).bind V.truth) (aj D b) n ρ'=z):dk (fun J=>(ak D c J).bind V.truth) (aj D b) (n+1) J=z:=xK hc (Th h k)
theorem W.stop {c:PE}{b:aA}{n:Nat} (hc:(ak D c J).bind V.truth=.ok false):dk (fun J=>(ak D c J).bind V.truth) (aj D b) (n+1) J=.next J:=xK hc rfl
end
theorem e7 (a b:Nat):decide ((a:Int)=(b:Int))=decide (a=b):=decide_eq_decide.mpr Int.ofNat_inj
theorem fP (a b:Nat):decide ((a:Int)<(b:Int))=decide (a<b):=decide_eq_decide.mpr Int.ofNat_lt
theorem Tj (a b:Nat):decide ((a:Int)<=(b:Int))=decide (a<=b):=decide_eq_decide.mpr Int.ofNat_le
theorem e8 {α:Type}{c:Prop} [Decidable c] {r s:R α} (h:c) (k:r=s):R.guard (decide c) r=s:=Gf (decide_eq_true h) k
theorem adds {s t:List Nat} (h:s.length+t.length<=1000000):sN .add (.str s) (.str t)=.ok (.str (s++t)):=e8 (show _<=lim from h) rfl
theorem qJ {a b:Int} (h:a=b):(R.ok (V.int a))=.ok (.int b):=h ▸ rfl
theorem C.ok {D:Fn->List V->R V}{J:Ρ}{c:PE}{b:Bool} (h:ak D c J=.ok (.bool b)):(ak D c J).bind V.truth=.ok b:=f7 h rfl
theorem C.and {D:Fn->List V->R V}{J:Ρ}{a b:PE}{x y:Bool} (h:ak D a J=.ok (.bool x)) (k:ak D b J=.ok (.bool y)):ak D (.and a b) J=.ok (.bool (x&&y)):=by
 cases x with
 | true=>exact E.Jc h rfl k
 | false=>exact E.Jd h rfl
theorem C.or {D:Fn->List V->R V}{J:Ρ}{a b:PE}{x y:Bool} (h:ak D a J=.ok (.bool x)) (k:ak D b J=.ok (.bool y)):ak D (.or a b) J=.ok (.bool (x||y)):=by
 cases x with
 | true=>exact E.Q4 h rfl
 | false=>exact E.Nq h rfl k
theorem bZ {a b:Bool} (h:a=b):(R.ok (V.bool a))=.ok (.bool b):=h ▸ rfl
theorem E.iN {D:Fn->List V->R V}{J:Ρ}{a:PE}{m:Nat} (K:Nat) (h:ak D a J=.ok (vi m)) (hK:(0<K/\K<1000000000):=by decide):ak D (.bin .fdiv a (.const (.int (K:Int)))) J=.ok (vi (m / K)):=
 E.bin h rfl (by
  show R.guard (decide ((0:Int)<(K:Int))&&decide ((K:Int)<1000000000)) _=_
  rw[decide_eq_true (show (0:Int)<(K:Int) from Int.ofNat_lt.mpr hK.1),decide_eq_true (show (K:Int)<1000000000 from Int.ofNat_lt.mpr hK.2)]
  exact qJ (by rw[Int.fdiv_eq_ediv_of_nonneg _ (Int.natCast_nonneg K)];rfl))
theorem E.sZ {D:Fn->List V->R V}{J:Ρ}{a:PE}{m:Nat} (K:Nat) (h:ak D a J=.ok (vi m)) (hK:0<K:=by decide):ak D (.bin .mod a (.const (.int (K:Int)))) J=.ok (vi (m % K)):=
 E.bin h rfl (e8 (c:=(0:Int)<(K:Int)) (Int.ofNat_lt.mpr hK) (qJ (by rw[Int.fmod_eq_emod_of_nonneg _ (Int.natCast_nonneg K)];rfl)))
theorem E.lst {D:Fn->List V->R V}{J:Ρ}{es:fZ}{vs:List V} (h:cS D es J=.ok vs):ak D (.list es) J=.ok (.list vs):=f7 h rfl
theorem E.tup {D:Fn->List V->R V}{J:Ρ}{es:fZ}{vs:List V} (h:cS D es J=.ok vs):ak D (.tuple es) J=.ok (.tuple vs):=f7 h rfl
theorem E.loc {D:Fn->List V->R V}{J:Ρ}{i:Nat}{v:V}{o:Option V} (h:o=some v) (q:J[i]?=some o:=by rfl):ak D (.loc i) J=.ok v:=by
 show (match J[i]? with | some (some v)=>R.ok v | _=>.stuck)=_
 rw[q,h]
theorem S.skip {D:Fn->List V->R V}{J:Ρ}{c:PE}{A:aA} (h:ak D c J=.ok (.bool false)):bQ D (.ite c A .nil) J=.next J:=(S.cO h rfl).trans rfl
noncomputable def sq (N:Nat) (A:List V):Ρ:=A.map some++List.replicate (N - A.length) none
theorem Nt {α:Type} (y z:α):∀ (A B:List α),(A++y::B).set A.length z=A++z::B:=by
 intro z0
 induction z0 with
 | nil=>exact fun B=>rfl
 | cons a A ih=>exact fun B=>by rw[List.cons_append,List.length_cons,List.set_cons_succ,ih B];rfl
theorem S.push {D:Fn->List V->R V}{N:Nat}{A:List V}{i:Nat}{e:PE}{v:V} (h:ak D e (sq N A)=.ok v) (hi:i=A.length:=by rfl) (hN:Nat.ble (A.length+1) N=true:=by rfl):bQ D (.assign i e) (sq N A)=.next (sq N (A++[v])):=by
 rw[S.assign h,hi]
 unfold sq
 have e1:N - A.length=(N - (A++[v]).length)+1:=by have:=Nat.le_of_ble_eq_true hN;rw[List.length_append,List.length_singleton];lia
 rw[e1,List.replicate_succ,show A.length=(A.map some).length from (List.length_map _).symm,Nt,List.map_append,List.append_assoc]
 rfl
theorem E.s6 {D:Fn->List V->R V}{J:Ρ}{e:PE}{l:List Nat} (h:ak D e J=.ok (.list (vl l))):ak D (.prim .len (.cons e .nil)) J=.ok (vi l.length):=E.prim (E.one h) (qJ (by rw[List.length_map]))
theorem E.Jf {D:Fn->List V->R V}{J:Ρ}{e:PE}{f:List Nat->V}{l:List (List Nat)} (h:ak D e J=.ok (.list (l.map f))):ak D (.prim .len (.cons e .nil)) J=.ok (vi l.length):=E.prim (E.one h) (qJ (by rw[List.length_map]))
theorem E.sel {D:Fn->List V->R V}{J:Ρ}{elt c:PE}{k:Nat}{it:uT}{xs:List V}{f:V->Bool} (hi:gG D it J=.ok xs) (hl:xs.length<=lim) (h:∀ x∈xs,ak D c (J.set k (some x))=.ok (.bool (f x))/\ak D elt (J.set k (some x))=.ok x):ak D (.comp elt k it c) J=.ok (.list (xs.filter f)):=by
 refine E.comp hi hl ?_
 clear hl hi
 induction xs with
 | nil=>rfl
 | cons x r ih=>
  refine aB (h x (.head _)) fun h1 h2=>?_
  rw[lR,ih fun y hy=>h y (.tail _ hy),h1,List.filter_cons]
  cases f x with
  | true=>show (match (ak D elt (J.set k (some x))).bind fun y=>R.ok (some y) with | .ok o=>_ | _=>_)=_;rw[h2];rfl
  | false=>rfl
theorem S.Gg {D:Fn->List V->R V}{J:Ρ}{α:Type}{f:α->V}{i:Nat}{v:α}{l:List α}{e:PE} (h1:J[i]?=some (some (.list (l.map f)))) (h:ak D e J=.ok (f v)) (hl:l.length<1000000) (hf:(f v).gu=true:=by rfl):bQ D (.append i e) J=.next (J.set i (some (.list ((l++[v]).map f)))):=by
 rw[S.append h1 h (by rw[List.length_map];exact hl) hf,<- List.map_singleton (f:=f),<- List.map_append]
theorem S.To {D:Fn->List V->R V}{J:Ρ}{i k:Nat}{s:List Nat}{e:PE} (h1:J[i]?=some (some (.b9 s))) (h:ak D e J=.ok (vi k)) (hk:k<256) (hl:s.length<1000000):bQ D (.push i e) J=.next (J.set i (some (.b9 (s++[k])))):=by
 show (match J[i]? with | some (some (.b9 s))=>((ak D e J).on J fun v=>match v with | .int k=>if 0<=k/\k<256/\s.length<lim then SR.next (J.set i (some (.b9 (s++[k.toNat])))) else .stuck | _=>.stuck) | _=>SR.stuck)=_
 rw[h1]
 exact xK h (if_pos ⟨Int.natCast_nonneg k,Int.ofNat_lt.mpr hk,hl⟩)
theorem E.more {D:Fn->List V->R V}{J:Ρ}{e:PE}{r:fZ}{v:V}{vs:List V} (h:ak D e J=.ok v) (k:cS D r J=.ok vs):cS D (.cons e r) J=.ok (v::vs):=f7 h (f7 k rfl)
theorem PR {n:Nat} (xs:List Int) (p:Nat) (hp:p<33):∃ z,ae defs (n+1) .qf [.list (xs.map V.int),.int p]=.ok (.int z):=by
 show ∃ z,(aj (ae defs n) PJ [some (.list (xs.map V.int)),some (.int p)]).value=.ok (.int z)
 by_cases h:p<xs.length
 ·exact⟨_,S.val (S.end ((S.aE (E.cmp rfl rfl rfl) (decide_eq_true (show (p:Int)<((xs.map V.int).length:Int) by rw[List.length_map];exact Int.ofNat_lt.mpr h))).trans (S.end (S.ret (E.idx rfl rfl rfl (ej (v:=.int xs[p]) (by rw[List.getElem?_map,List.getElem?_eq_getElem h];rfl)))))))⟩
 ·have h2:¬ (p:Int)<((xs.map V.int).length:Int):=by rw[List.length_map];exact fun q=>h (Int.ofNat_lt.mp q)
  obtain⟨l,hl,XD⟩:=Jb
  have hz:ib jJ (.int p)=.ok (.int (l[p]'(XD ▸ hp))):=by
   rw[hl];exact Gd (by rw[List.getElem?_map,List.getElem?_eq_getElem (XD ▸ hp)];rfl)
  exact⟨_,S.val (S.seq (S.skip (E.cmp rfl rfl (bZ (decide_eq_false h2)))) (S.end (S.ret (E.idx rfl rfl rfl hz))))⟩
theorem qK {D:Fn->List V->R V}{J:Ρ}{e:PE}{k:PG}{r:CF}{v:V}{s u:List Nat} (h:ak D e J=.ok v) (hf:sO k v=.ok s) (hl:s.length<=100000) (hr:gH D r J=.ok u):gH D (.cons e k r) J=.ok (s++u):=
 f7 h (f7 hf (Gf (decide_eq_true hl) (f7 hr rfl)))
theorem S.C1 {D:Fn->List V->R V}{J:Ρ}{b:aA}{hs:Ij}{v:V} (h:aj D b J=.ret v):bQ D (.try b hs) J=.ret v:=by
 show (match aj D b J with | .exc x ρ'=>Ik D hs x ρ' | r=>r)=_
 rw[h]
theorem S.Jg {D:Fn->List V->R V}{J ρ':Ρ}{b:aA}{hs:Ij} (h:aj D b J=.next ρ'):bQ D (.try b hs) J=.next ρ':=by
 show (match aj D b J with | .exc x ρ'=>Ik D hs x ρ' | r=>r)=_
 rw[h]
theorem S.C2 {D:Fn->List V->R V}{J ρ':Ρ}{b:aA}{hs:Ij}{x:dB}{z:SR} (h:aj D b J=.exc x ρ') (k:Ik D hs x ρ'=z):bQ D (.try b hs) J=z:=by
 show (match aj D b J with | .exc x ρ'=>Ik D hs x ρ' | r=>r)=_
 rw[h];exact k
theorem Tp {b:Bool} (h:(!b)=true):b=false:=by cases b;rfl;contradiction
theorem Tq {b:Bool} (h:(!b)=false):b=true:=by cases b;contradiction;rfl
theorem E.neN {D:Fn->List V->R V}{J:Ρ}{a b:PE}{x y:Nat} (h:ak D a J=.ok (vi x)) (k:ak D b J=.ok (vi y)):ak D (.cmp .ne a b) J=.ok (.bool !decide (x=y)):=E.cmp h k (bZ (congrArg (!·) (e7 x y)))
theorem F.scan {D:Fn->List V->R V}{i:Nat}{b:aA}{α:Type}{f:α->V}{C:Option V->Ρ}{ok:α->Bool}{Z:SR->Prop} (hF:∀ o x,(C o).set i (some x)=C (some x)) (hZ:∀ s k,Z s->s.then k=s)
  (hb:∀ x,ok x=true->aj D b (C (some (f x)))=.next (C (some (f x)))) (hz:∀ x,ok x=false->Z (aj D b (C (some (f x))))) :
  ∀ (ps:List α) (o:Option V),(ps.all ok=true/\∃ o',dg i (aj D b) (ps.map f) (C o)=.next (C o'))∨(ps.all ok=false/\Z (dg i (aj D b) (ps.map f) (C o))):=by
 intro ps
 induction ps with
 | nil=>exact fun o=>.inl ⟨rfl,o,rfl⟩
 | cons x r ih=>
  intro o
  rw[List.all_cons]
  cases h:ok x with
  | true=>
   have e:dg i (aj D b) ((x::r).map f) (C o)=dg i (aj D b) (r.map f) (C (some (f x))):=F.cons (by rw[hF];exact hb x h) rfl
   rw[e];exact ih _
  | false=>
   refine .inr ⟨rfl,?_⟩
   show Z ((aj D b ((C o).set i (some (f x)))).then _)
   rw[hF,hZ _ _ (hz x h)];exact hz x h
noncomputable def aJ:List Nat->List Nat
 | []=>[]
 | x::r=>x / 256::x % 256::aJ r
theorem pZ:aJ []=([]):=rfl
theorem iw:aJ (x::r)=(x / 256::x % 256::aJ r):=rfl
theorem gd:∀ g:List Nat,(aJ g).length=2*g.length:=by
 intro z0
 induction z0 with
 | nil=>
  exact  rfl
 | cons x r ih=>
  simp[pZ,iw,ih];lia
theorem oU:∀ a b:List Nat,aJ (a++b)=aJ a++aJ b:=by
 intro z0
 induction z0 with
 | nil=>
  exact fun b=>rfl
 | cons x r ih=>
  intro b
  simp[pZ,iw,ih b]
theorem cW:∀ g:List Nat,(∀ x∈g,x<65536)->∀ y∈aJ g,y<256:=by
 intro z0
 induction z0 with
 | nil=>
  intro _ y h
  contradiction
 | cons x r ih=>
  intro hg y h
  have hx:=hg x (.head _)
  simp only[iw,List.mem_cons] at h
  rcases h with rfl | rfl | h
  ·lia
  ·lia
  ·exact ih (fun z hz=>hg z (.tail _ hz)) y h
theorem AG {D:Fn->List V->R V}{G:Option V}:∀ (gs acc:List Nat) (o:Option V),acc.length+2*gs.length<=1000->
  ∃ o',dg 2 (aj D oO) (vl gs) [G,some (.list (vl acc)),o]=.next [G,some (.list (vl (acc++aJ gs))),o']:=by
 intro z0
 induction z0 with
 | nil=>
  intro acc o _
  exact⟨o,by rw[show acc++aJ []=acc from List.append_nil _];rfl⟩
 | cons x r ih=>
  intro acc o h
  rw[List.length_cons] at h
  have h2:((acc++[x / 256])++[x % 256]).length=acc.length+2:=by rw[List.length_append,List.length_append];rfl
  refine Exists.elim (ih ((acc++[x / 256])++[x % 256]) (some (vi x)) (by rw[h2];lia)) fun o' e=>?_
  rw[show acc++[x / 256]++[x % 256]++aJ r=acc++aJ (x::r) by rw[List.append_assoc,List.append_assoc];rfl] at e
  have hl:acc.length+1<1000000:=Nat.lt_of_le_of_lt (show _<=1000 by lia) (by decide)
  exact⟨o',F.cons (S.seq (S.Gg (f:=vi) rfl (E.iN 256 rfl) (Nat.lt_of_succ_lt hl)) (S.one (S.Gg (f:=vi) rfl (E.sZ 256 rfl) (by rw[List.length_append];exact hl)))) e⟩
theorem C3:∀ l:List Nat,eF (vl l)=some (l.map fun n:Nat=>(n:Int)):=by
 intro z0
 induction z0 with
 | nil=>
  exact  rfl
 | cons x r ih=>
  show eF (V.int x::vl r)=_
  rw[ql,ih];rfl
theorem qL {l:List Nat} (h:∀ x∈l,x<256):bq .bytes [.list (vl l)]=.ok (.bytes l):=by
 unfold bq
 dsimp only
 rw[C3]
 dsimp only
 have h1:((l.map fun n:Nat=>(n:Int)).all fun i=>decide (0<=i)&&decide (i<256))=true:=by
  rw[List.all_eq_true]
  intro i hi
  refine Exists.elim (List.mem_map.mp hi) fun x zz=>aB zz fun hx av=>?_;clear zz;subst av
  have:=h x hx
  simp;lia
 rw[if_pos h1,List.map_map]
 congr 2
 exact List.map_id'' (fun x=>rfl) l
theorem lZ {n:Nat} (gs:List Nat) (hl:gs.length<=100) (hg:∀ x∈gs,x<65536):ae defs (n+1) .eQ [.list (vl gs)]=.ok (.bytes (aJ gs)):=by
 show (aj (ae defs n) tU [some (.list (vl gs)),none,none]).value=_
 refine Exists.elim (AG (D:=ae defs n) (G:=some (.list (vl gs))) gs [] none (by rw[List.length_nil];lia)) fun o' e=>?_
 exact S.val (S.seq rfl (S.seq (S.for rfl (by rw[List.length_map];exact Nat.le_trans hl (by decide)) e) (S.end (S.ret (E.prim (E.one rfl) (qL (cW gs hg)))))))
noncomputable def dx (sg:List Nat) (w:Nat):Nat->Nat->List Nat->List Nat
 | 0,_,acc=>acc
 | k+1,n,acc=>if 0<n∨acc.length<w then dx sg w k (n / 16) (sg.getD (n % 16) 0::acc) else acc
theorem dK {sg:List Nat}{w:Nat}:dx sg w (k+1) n acc=(if 0<n∨acc.length<w then dx sg w k (n / 16) (sg.getD (n % 16) 0::acc) else acc):=rfl
theorem nE {D:Fn->List V->R V}{sg acc:List Nat}{n w:Nat}:ak D (.or (.cmp .gt (.loc 0) (.const (.int 0))) (.cmp .lt (.prim .len (.cons (.loc 3) .nil)) (.loc 1))) [some (vi n),some (vi w),some (.str sg),some (.str acc)]=.ok (.bool (decide (0<n∨acc.length<w))):=
 (C.or (E.cmp (op:=.gt) (x:=vi n) (y:=vi 0) rfl rfl (bZ (fP 0 n))) (E.cmp (op:=.lt) (x:=vi acc.length) (y:=vi w) rfl rfl (bZ (fP _ _)))).trans (bZ (Bool.decide_or ..).symm)
theorem AH {D:Fn->List V->R V}{sg:List Nat}{w:Nat} (VK:16<=sg.length):∀ (k f n:Nat) (acc:List Nat),n<16 ^ k->w<=acc.length+k->acc.length+k<=100->
  ∃ n',dk (fun J=>(ak D (.or (.cmp .gt (.loc 0) (.const (.int 0))) (.cmp .lt (.prim .len (.cons (.loc 3) .nil)) (.loc 1))) J).bind V.truth) (aj D nA) (f+k+1) [some (vi n),some (vi w),some (.str sg),some (.str acc)] =
   .next [some n',some (vi w),some (.str sg),some (.str (dx sg w k n acc))]:=by
 intro z0
 induction z0 with
 | zero=>
  exact fun f n acc hn hw hl=>⟨vi n,W.stop (C.ok (nE.trans (bZ (decide_eq_false fun q=>q.elim (Nat.not_lt.mpr (Nat.le_of_lt_succ hn)) (Nat.not_lt.mpr hw)))))⟩
 | succ k ih=>
  intro f n acc hn hw hl
  by_cases hc:0<n∨acc.length<w
  ·have hJ:n % 16<sg.length:=Nat.lt_of_lt_of_le (Nat.mod_lt n (by decide)) VK
   have hi:sg[n % 16]?=some (sg.getD (n % 16) 0):=by rw[List.getElem?_eq_getElem hJ,List.getD_eq_getElem?_getD,List.getElem?_eq_getElem hJ];rfl
   have Nu:(sg.getD (n % 16) 0::acc).length+k=acc.length+(k+1):=by rw[List.length_cons,Nat.succ_add];rfl
   obtain⟨n',e⟩:=ih f (n / 16) (sg.getD (n % 16) 0::acc) (Nat.div_lt_of_lt_mul (by rw[Nat.mul_comm,<- Nat.pow_succ];exact hn)) (by rw[Nu];exact hw) (by rw[Nu];exact hl)
   have hb:aj D nA [some (vi n),some (vi w),some (.str sg),some (.str acc)]=.next [some (vi (n / 16)),some (vi w),some (.str sg),some (.str (sg.getD (n % 16) 0::acc))]:=
    S.seq (S.assign (v:=.str (sg.getD (n % 16) 0::acc)) (E.bin (x:=.str [sg.getD (n % 16) 0]) (y:=.str acc) (E.idx (x:=.str sg) (y:=vi (n % 16)) rfl (E.sZ 16 rfl) rfl (vH hi)) rfl (adds (by
     rw[Nat.add_comm];exact Nat.le_trans (Nat.add_le_add_left (Nat.le_add_left 1 k) _) (Nat.le_trans hl (by decide)))))) (S.one (S.assign (E.iN 16 rfl)))
   exact⟨n',(W.turn (C.ok (nE.trans (bZ (decide_eq_true hc)))) hb e).trans (by rw[dK,if_pos hc])⟩
  ·exact⟨vi n,(W.stop (C.ok (nE.trans (bZ (decide_eq_false hc))))).trans (by rw[dK,if_neg hc])⟩
theorem AI {m:Nat}{sg:List Nat} (n w k:Nat) (VK:16<=sg.length) (hn:n<16 ^ k) (hw:w<=k) (hk:k<=90):ae defs (m+1) .iJ [vi n,vi w,.str sg]=.ok (.str (dx sg w k n [])):=by
 show (aj (ae defs m) CQ [some (vi n),some (vi w),some (.str sg),none]).value=_
 refine Exists.elim (AH (D:=ae defs m) (w:=w) VK k (100000 - k - 1) n [] hn (by rw[List.length_nil,Nat.zero_add];exact hw) (by rw[List.length_nil];lia)) fun n' e=>?_
 rw[show 100000 - k - 1+k+1=turns from by show _=100000;lia] at e
 exact S.val (S.seq rfl (S.seq e (S.end (S.ret rfl))))
theorem Gh {sg:List Nat}{w:Nat}:∀ (k n:Nat) (acc:List Nat),(dx sg w k n acc).length<=acc.length+k:=by
 intro z0
 induction z0 with
 | zero=>
  intro n acc
  exact Nat.le_refl _
 | succ k ih=>
  intro n acc
  rw[dK]
  split
  ·have:=ih (n / 16) (sg.getD (n % 16) 0::acc);rw[List.length_cons] at this;lia
  ·lia
theorem ub {sg:List Nat}{w:Nat} (VK:16<=sg.length):∀ (k n:Nat) (acc:List Nat) (c:Nat),c∈dx sg w k n acc->c∈acc∨c∈sg.take 16:=by
 intro z0
 induction z0 with
 | zero=>
  intro n acc c h
  exact .inl h
 | succ k ih=>
  intro n acc c h
  rw[dK] at h
  split at h
  ·rcases ih (n / 16) _ c h with h | h
   ·rcases List.mem_cons.mp h with h | h
    ·right
     rw[h,List.getD_eq_getElem?_getD,List.getElem?_eq_getElem (by lia),Option.getD_some]
     exact List.mem_take_iff_getElem.mpr ⟨n % 16,by lia,rfl⟩
    ·exact .inl h
   ·exact .inr h
  ·exact .inl h
noncomputable def bO (l:List Nat):List Nat:=a9 [46] (l.map fun n:Nat=>bG n)
theorem qM {n:Nat} (h:n<1000):(bG n).length<=3:=by
 have:∀ n:Fin 1000,(bG ((n.1:Nat):Int)).length<=3:=by decide +kernel
 exact this ⟨n,h⟩
theorem gL {n:Nat} (h:n<2 ^ 200):((n:Int).natAbs.log2<1920):=by
 rw[Int.natAbs_natCast]
 by_cases h0:n=0
 ·subst h0;decide
 ·exact Nat.lt_of_lt_of_le ((Nat.log2_lt h0).mpr h) (by decide)
theorem Nv:∀ l:List Nat,(∀ x∈l,x<1000)->bf (l.map fun n:Nat=>bG n)<=3*l.length:=by
 intro l
 induction l with
 | nil=>exact fun O=>Nat.le_refl _
 | cons x r ih=>exact fun h=>Nat.le_trans (Nat.add_le_add (qM (h x (.head _))) (ih fun y hy=>h y (.tail _ hy))) (by rw[List.length_cons,Nat.mul_succ,Nat.add_comm];exact Nat.le_refl _)
theorem vI {n:Nat} (l:List Nat) (hl:l.length<=100) (h:∀ x∈l,x<1000):ae defs (n+1) .iK [.list (vl l)]=.ok (.str (bO l)):=by
 show (aj (ae defs n) CT [some (.list (vl l)),none]).value=_
 have hj:=jd [46] (l.map fun n:Nat=>bG n)
 rw[decide_eq_true (Nat.le_trans (Nat.add_le_add (Nv l h) (Nat.le_of_eq (by rw[List.length_map];rfl))) (Nat.le_trans (show 3*l.length+1*l.length<=400 by lia) (by decide)))] at hj
 have hm:(vl l).map (fun x=>match x with | .int i=>.str (bG i) | _=>.none)=(l.map fun n:Nat=>bG n).map V.str:=by rw[List.map_map,List.map_map];rfl
 refine S.val (S.end (S.ret (E.aG rfl rfl (E.one (E.map (f:=fun x=>match x with | .int i=>.str (bG i) | _=>.none) rfl (by rw[List.length_map];exact Nat.le_trans hl (by decide)) fun x hx=>?_)) (hm ▸ hj))))
 refine Exists.elim (List.mem_map.mp hx) fun y zz=>aB zz fun hy av=>?_;clear zz;subst av
 exact E.prim (E.one rfl) (e8 (gL (Nat.lt_trans (h y hy) (by decide))) rfl)
theorem vJ {n:Nat} (a b:Nat):ae defs (n+1) .eZ [.list (vl [a,b])]=.ok (.list (vl (aJ [a,b]))):=by
 show (aj (ae defs n) qz [some (.list (vl [a,b]))]).value=_
 have i0:∀ {D:Fn->List V->R V},ak D (.idx (.loc 0) (.const (.int 0))) [some (.list (vl [a,b]))]=.ok (vi a):=rfl
 have i1:∀ {D:Fn->List V->R V},ak D (.idx (.loc 0) (.const (.int 1))) [some (.list (vl [a,b]))]=.ok (vi b):=rfl
 exact S.val (S.end (S.ret (E.lst (E.more (E.iN 256 i0) (E.more (E.sZ 256 i0) (E.more (E.iN 256 i1) (E.one (E.sZ 256 i1))))))))
noncomputable def dU (c:Nat):Int:=findAt [c] [48,49,50,51,52,53,54,55,56,57,97,98,99,100,101,102,65,66,67,68,69,70] 0
theorem xM {c:Nat} (h:c<128):(aM c=true/\dU c=((c - 48:Nat):Int)/\c - 48<=9)∨(aM c=false/\(dU c<0∨9<dU c)):=by
 have:∀ c:Fin 128,(aM c.1=true/\dU c.1=((c.1 - 48:Nat):Int)/\c.1 - 48<=9)∨(aM c.1=false/\(dU c.1<0∨9<dU c.1)):=by decide +kernel
 exact this ⟨c,h⟩
noncomputable def gM:List Nat->List Nat->List Nat->Nat->Option (List Nat)
 | [],nums,_,_=>some nums
 | c::r,nums,ds,v=>if c=46 then (if bG v=ds/\v<=255 then gM r (nums++[v]) [] 0 else none)
  else if aM c=true then gM r nums (ds++[c]) (v*10+(c - 48)) else none
theorem Jh:gM [] nums u1 u2=(some nums):=rfl
theorem qN:gM (c::r) nums ds v=(if c=46 then (if bG v=ds/\v<=255 then gM r (nums++[v]) [] 0 else none)
  else if aM c=true then gM r nums (ds++[c]) (v*10+(c - 48)) else none):=rfl
theorem Nw {v k:Nat} (h:v<10 ^ k) (hk:k<=560):(v:Int).natAbs.log2<1920:=by
 rw[Int.natAbs_natCast]
 by_cases h0:v=0
 ·subst h0;decide
 ·exact (Nat.log2_lt h0).mpr (Nat.lt_of_lt_of_le h (Nat.le_trans (Nat.pow_le_pow_right (by decide) hk) (by decide)))
theorem Gi {v k:Nat} (h:v<10 ^ k) (hk:k<=2000):(v:Int).natAbs<pB:=by
 rw[Int.natAbs_natCast]
 exact Nat.lt_of_lt_of_le h (Nat.pow_le_pow_right (by decide) (Nat.le_trans hk (by decide)))
theorem C4 {v k:Nat} (h:v<16 ^ k) (hk:k<=2000):(v:Int).natAbs<pB:=by
 rw[Int.natAbs_natCast]
 refine Nat.lt_of_lt_of_le h (Nat.le_trans (Nat.pow_le_pow_left (show 16<=10 ^ 2 by decide) k) ?_)
 rw[<- Nat.pow_mul]
 exact Nat.pow_le_pow_right (by decide) (by lia)
theorem Nx:(10:Int).natAbs<pB:=by
 have:=C4 (v:=10) (k:=1) (by decide) (by decide)
 exact this
theorem Ny (c d:Nat):decide (([c]:List Nat)=[d])=decide (c=d):=by simp
theorem Tr {v k:Nat} (hv:v<10 ^ k) (hk:k<=2000):sN .mul (vi v) (vi 10)=.ok (vi (v*10)):=by
 show R.guard (decide ((v:Int).natAbs<pB)&&decide ((10:Int).natAbs<pB)) _=_
 rw[decide_eq_true (Gi hv hk),decide_eq_true Nx];rfl
noncomputable def qO (c:Nat) (nums ds:List Nat) (v:Nat):Option (List Nat × List Nat × Nat):=if c=46 then (if bG v=ds/\v<=255 then some (nums++[v],[],0) else none) else if aM c=true then some (nums,ds++[c],v*10+(c - 48)) else none
theorem AJ {c:Nat}{r nums ds:List Nat}{v:Nat}:gM (c::r) nums ds v=match qO c nums ds v with
  | some x=>gM r x.1 x.2.1 x.2.2
  | none=>none:=by
 rw[qN]
 unfold qO
 by_cases h:c=46
 ·rw[if_pos h,if_pos h]
  by_cases g:bG v=ds/\v<=255
  ·rw[if_pos g,if_pos g]
  ·rw[if_neg g,if_neg g]
 ·rw[if_neg h,if_neg h]
  by_cases g:aM c=true
  ·rw[if_pos g,if_pos g]
  ·rw[if_neg g,if_neg g]
theorem Gj {D:Fn->List V->R V}{T o5:Option V}{c v:Nat}{nums ds:List Nat} (hc:c<128) (hd:ds.length<=550) (hv:v<10 ^ ds.length) (hn:nums.length<1000):match qO c nums ds v with
  | some x=>∃ o,aj D gK [T,some (.list (vl nums)),some (.str ds),some (vi v),some (.str [c]),o5]=.next [T,some (.list (vl x.1)),some (.str x.2.1),some (vi x.2.2),some (.str [c]),o]
  | none=>aj D gK [T,some (.list (vl nums)),some (.str ds),some (vi v),some (.str [c]),o5]=.ret (.list []):=by
 have dot:=E.cmp (D:=D) (J:=[T,some (.list (vl nums)),some (.str ds),some (vi v),some (.str [c]),o5]) (op:=.eq) (a:=.loc 4) (b:=.const (.str [46])) (x:=.str [c]) (y:=.str [46]) rfl rfl (bZ (Ny c 46))
 unfold qO
 by_cases SQ:c=46
 ·rw[if_pos SQ]
  have c1:=C.or (D:=D) (J:=[T,some (.list (vl nums)),some (.str ds),some (vi v),some (.str [c]),o5]) (a:=.cmp .ne (.prim .str (.cons (.loc 3) .nil)) (.loc 2)) (b:=.cmp .gt (.loc 3) (.const (.int 255))) (x:=!decide (bG v=ds)) (E.cmp (op:=.ne) (x:=.str (bG v)) (y:=.str ds) (E.prim (E.one (v:=vi v) rfl) (e8 (Nw hv (Nat.le_trans hd (by decide))) rfl)) rfl rfl) (E.cmp (op:=.gt) (x:=vi v) (y:=vi 255) rfl rfl (bZ (fP 255 v)))
  by_cases hg:bG v=ds/\v<=255
  ·rw[if_pos hg]
   exact⟨o5,S.last.trans ((S.aE dot (decide_eq_true SQ)).trans (S.seq (S.skip (c1.trans (by rw[decide_eq_true hg.1,decide_eq_false (Nat.not_lt.mpr hg.2)];rfl))) (S.seq (S.Gg (f:=vi) (v:=v) (l:=nums) rfl rfl (Nat.lt_trans hn (by decide))) (S.seq (S.assign rfl) (S.one (S.assign rfl))))))⟩
  ·rw[if_neg hg]
   have t:(!decide (bG v=ds)||decide (255<v))=true:=by
    by_cases h1:bG v=ds
    ·rw[decide_eq_true h1,decide_eq_true (Nat.not_le.mp fun q=>hg ⟨h1,q⟩)];rfl
    ·rw[decide_eq_false h1];rfl
   exact S.last.trans ((S.aE dot (decide_eq_true SQ)).trans (S.end ((S.aE c1 t).trans rfl)))
 ·rw[if_neg SQ]
  have e1:∀ {z:Int},dU c=z->bQ D (.assign 5 (.aG .find (.glob cN) (.cons (.loc 4) .nil))) [T,some (.list (vl nums)),some (.str ds),some (vi v),some (.str [c]),o5]=.next [T,some (.list (vl nums)),some (.str ds),some (vi v),some (.str [c]),some (.int z)]:=fun h=>h ▸ S.assign (E.aG rfl rfl (E.one rfl) rfl)
  rcases xM hc with ⟨q1,q2,q3⟩ | ⟨q1,q2⟩
  ·rw[if_pos q1]
   exact⟨_,S.last.trans ((S.cO dot (decide_eq_false SQ)).trans (S.seq (e1 q2) (S.seq (S.skip ((C.or (E.cmp (op:=.lt) (x:=vi (c - 48)) (y:=vi 0) rfl rfl (bZ ((fP (c - 48) 0).trans (decide_eq_false (Nat.not_lt_zero _))))) (E.cmp (op:=.gt) (x:=vi (c - 48)) (y:=vi 9) rfl rfl (bZ ((fP 9 (c - 48)).trans (decide_eq_false (Nat.not_lt.mpr q3)))))).trans rfl))
    (S.seq (S.assign (v:=.str (ds++[c])) (E.bin (x:=.str ds) (y:=.str [c]) rfl rfl (adds (Nat.le_trans (Nat.add_le_add hd (Nat.le_refl 1)) (by decide))))) (S.one (S.assign (v:=vi (v*10+(c - 48))) (E.bin (x:=vi (v*10)) (y:=vi (c - 48)) (E.bin (x:=vi v) (y:=vi 10) rfl rfl (Tr hv (Nat.le_trans hd (by decide)))) rfl rfl)))))))⟩
  ·rw[q1,if_neg Bool.false_ne_true]
   exact S.last.trans ((S.cO dot (decide_eq_false SQ)).trans (S.seq (e1 rfl) (S.end ((S.aE ((C.or (E.cmp (op:=.lt) (x:=.int (dU c)) (y:=.int 0) rfl rfl rfl) (E.cmp (op:=.gt) (x:=.int (dU c)) (y:=.int 9) rfl rfl rfl)).trans (bZ (Bool.decide_or ..).symm)) (decide_eq_true q2)).trans rfl))))
theorem Ji {c v:Nat}{nums ds:List Nat}{x:List Nat × List Nat × Nat} (h:qO c nums ds v=some x) (hv:v<10 ^ ds.length):x.2.1.length<=ds.length+1/\x.2.2<10 ^ x.2.1.length/\x.1.length<=nums.length+1:=by
 unfold qO at h
 by_cases h1:c=46
 ·rw[if_pos h1] at h
  by_cases h2:bG v=ds/\v<=255
  ·rw[if_pos h2] at h;injection h with h;subst h
   exact⟨Nat.zero_le _,show (0:Nat)<10 ^ 0 by decide,by rw[List.length_append];exact Nat.le_refl _⟩
  ·rw[if_neg h2] at h;contradiction
 ·rw[if_neg h1] at h
  by_cases h2:aM c=true
  ·rw[if_pos h2] at h;injection h with h;subst h
   have hd:c - 48<10:=by
    unfold aM at h2
    simp only[Bool.and_eq_true,decide_eq_true_eq] at h2
    omega
   refine⟨by rw[List.length_append];exact Nat.le_refl _,?_,Nat.le_succ _⟩
   show v*10+(c - 48)<10 ^ (ds++[c]).length
   rw[List.length_append,List.length_singleton,Nat.pow_succ]
   exact Nat.lt_of_lt_of_le (Nat.add_lt_add_left hd _) (by rw[<- Nat.succ_mul];exact Nat.mul_le_mul_right 10 hv)
  ·rw[if_neg h2] at h;contradiction
theorem Jj {D:Fn->List V->R V}{T:Option V}:∀ (cs nums ds:List Nat) (v:Nat) (o4 o5:Option V),(∀ c∈cs,c<128)->ds.length+cs.length<=550->v<10 ^ ds.length->nums.length+cs.length<=1000->
  match gM cs nums ds v with
  | some ns=>∃ a b c d,dg 4 (aj D gK) (cs.map fun c=>V.str [c]) [T,some (.list (vl nums)),some (.str ds),some (vi v),o4,o5]=.next [T,some (.list (vl ns)),a,b,c,d]
  | none=>dg 4 (aj D gK) (cs.map fun c=>V.str [c]) [T,some (.list (vl nums)),some (.str ds),some (vi v),o4,o5]=.ret (.list []):=by
 intro z0
 induction z0 with
 | nil=>
  exact fun nums ds v o4 o5 O O O O=>⟨_,_,_,_,rfl⟩
 | cons c r ih=>
  intro nums ds v o4 o5 hc hd hv hn
  rw[List.length_cons] at hd hn
  have hb:=Gj (D:=D) (T:=T) (o5:=o5) (nums:=nums) (hc c (.head _)) (Nat.le_trans (Nat.le_add_right _ _) hd) hv (Nat.lt_of_lt_of_le (Nat.lt_add_of_pos_right (Nat.succ_pos _)) hn)
  rw[AJ]
  cases hx:qO c nums ds v with
  | none=>rw[hx] at hb;exact F.stop hb
  | some x=>
   rw[hx] at hb
   refine Exists.elim hb fun o hb=>?_
   refine b5 (Ji hx hv) fun k1 k2 k3=>?_
   have ih:=ih x.1 x.2.1 x.2.2 (some (.str [c])) o (fun c Nz=>hc c (.tail _ Nz)) (Nat.le_trans (Nat.add_le_add_right k1 _) (by rw[Nat.add_right_comm];exact hd)) k2 (Nat.le_trans (Nat.add_le_add_right k3 _) (by rw[Nat.add_right_comm];exact hn))
   dsimp only
   cases hr:gM r x.1 x.2.1 x.2.2 with
   | none=>rw[hr] at ih;exact F.cons hb ih
   | some w=>rw[hr] at ih;exact ih.imp fun a h=>h.imp fun b h=>h.imp fun c h=>h.imp fun d e=>F.cons hb e
noncomputable def aH (t:List Nat):List Nat:=match gM (t++[46]) [] [] 0 with
 | some ns=>if ns.length=4 then ns else []
 | none=>[]
theorem Jk {n:Nat} (t:List Nat) (ht:∀ c∈t,c<128) (hl:t.length<=520):ae defs (n+1) .lM [.str t]=.ok (.list (vl (aH t))):=by
 show (aj (ae defs n) CV [some (.str t),none,none,none,none,none]).value=_
 have qP:∀ c∈t++[46],c<128:=fun c hc=>(List.mem_append.mp hc).elim (ht c) fun h=>by rw[List.mem_singleton.mp h];decide
 have NB:(t++[46]).length=t.length+1:=List.length_append
 have e:=Jj (D:=ae defs n) (T:=some (.str t)) (t++[46]) [] [] 0 none none qP (by rw[NB,List.length_nil];lia) (Nat.lt_succ_self 0) (by rw[NB,List.length_nil];lia)
 have hm:t.length+1<=1000000:=Nat.le_trans (Nat.succ_le_succ hl) (by decide)
 have Q5:ascii (t++[46])=true:=by
  unfold ascii
  rw[List.all_eq_true]
  exact fun c hc=>decide_eq_true (qP c hc)
 have hi:gG (ae defs n) (.val (.bin .add (.loc 0) (.const (.str [46])))) [some (.str t),some (.list (vl [])),some (.str []),some (vi 0),none,none]=.ok ((t++[46]).map fun c=>.str [c]):=f7 (E.bin rfl rfl (adds hm)) (Gf Q5 rfl)
 have Ts:((t++[46]).map fun c=>V.str [c]).length<=lim:=by rw[List.length_map,NB];exact hm
 unfold aH
 revert e
 cases gM (t++[46]) [] [] 0 with
 | none=>exact fun e=>S.val (S.seq rfl (S.seq rfl (S.seq rfl (S.end (S.for hi Ts e)))))
 | some ns=>
  rintro ⟨a,b,c,d,e⟩
  refine S.val (S.seq rfl (S.seq rfl (S.seq rfl (S.seq (S.for hi Ts e) ?_))))
  show _=SR.ret (.list (vl (if ns.length=4 then ns else [])))
  by_cases h4:ns.length=4
  ·rw[if_pos h4]
   exact S.seq (S.skip ((E.neN (E.s6 rfl) rfl).trans (bZ (by rw[decide_eq_true h4];rfl)))) (S.end (S.ret rfl))
  ·rw[if_neg h4]
   exact S.end ((S.aE (E.neN (E.s6 rfl) rfl) (by rw[decide_eq_false h4];rfl)).trans rfl)
abbrev je (p:List Nat):Prop:=p.all aM=true/\bG (digitsVal p)=p/\digitsVal p<=255
theorem dW {c:Nat}:∀ l:List Nat,ag c l≠[]:=by
 intro z0
 induction z0 with
 | nil=>simp[fA,aS]
 | cons x r ih=>
  rw[aS]
  split
  ·simp
  ·split<;>simp
theorem bR {c:Nat} (l:List Nat):∃ p ps,ag c l=p::ps:=by
 cases h:ag c l with
 | nil=>exact absurd h (dW l)
 | cons p ps=>exact⟨p,ps,rfl⟩
theorem digitsVal_snoc (ds:List Nat) (c:Nat):digitsVal (ds++[c])=digitsVal ds*10+(c - 48):=by simp[digitsVal]
set_option tactic.hygienic true in
theorem xN:∀ (t nums ds:List Nat),ds.all aM=true->∀ p ps,ag 46 t=p::ps->
  gM (t++[46]) nums ds (digitsVal ds)=if je (ds++p)/\∀ q∈ps,je q then some (nums++digitsVal (ds++p)::ps.map digitsVal) else none:=by
 intro z0
 induction z0 with
 | nil=>
  intro nums ds hd p ps h
  injection h with h zq;subst h zq
  rw[List.nil_append,qN,if_pos rfl,Jh,List.append_nil]
  unfold je
  simp[hd]
 | cons c r ih=>
  intro nums ds hd p ps h
  rw[aS] at h
  rw[List.cons_append,qN]
  by_cases hc:c=46
  ·rw[if_pos hc] at h ⊢
   cases h
   refine bT (bR (c:=46) r) fun p' XE e=>?_
   have ih:=ih (nums++[digitsVal ds]) [] rfl p' XE e
   rw[show digitsVal []=0 from rfl] at ih
   rw[ih,e,List.append_nil,List.nil_append]
   unfold je
   simp only[hd,true_and,List.mem_cons,List.forall_mem_cons,forall_eq_or_imp]
   split
   ·rename_i h1
    split
    ·rename_i h2
     rw[if_pos ⟨h1,h2⟩]
     simp
    ·rename_i h2
     rw[if_neg fun q=>h2 q.2]
   ·rename_i h1
    rw[if_neg fun q=>h1 q.1]
  ·rw[if_neg hc] at h ⊢
   refine bT (bR (c:=46) r) fun p' XE e=>?_
   rw[e] at h
   cases h
   by_cases hq:aM c=true
   ·rw[if_pos hq]
    have ih:=ih nums (ds++[c]) (by rw[List.all_append,hd];simp[hq]) p' ps e
    rw[digitsVal_snoc] at ih
    rw[ih]
    simp
   ·rw[if_neg hq,if_neg]
    rintro ⟨⟨h1,_⟩,_⟩
    rw[List.all_append,List.all_cons] at h1
    simp at h1
    exact hq h1.2.1
set_option tactic.hygienic true in
theorem dX {t:List Nat}:aH t=if (ag 46 t).length=4/\∀ q∈ag 46 t,je q then (ag 46 t).map digitsVal else []:=by
 refine bT (bR (c:=46) t) fun p ps e=>?_
 unfold aH
 have:=xN t [] [] rfl p ps e
 rw[show digitsVal []=0 from rfl] at this
 rw[this,e]
 simp only[List.nil_append,List.forall_mem_cons,List.map_cons]
 split
 ·rename_i h
  split at h
  ·rename_i h2
   injection h with h;subst h
   simp only[List.length_cons,List.length_map]
   by_cases h4:ps.length+1=4
   ·rw[if_pos h4,if_pos ⟨h4,h2⟩]
   ·rw[if_neg h4,if_neg fun q=>h4 q.1]
  ·contradiction
 ·rename_i h
  split at h
  ·contradiction
  ·rename_i h2
   rw[if_neg fun q=>h2 q.2]
noncomputable def jf (p:List Nat):Bool:=!p.isEmpty&&p.all aM&&!(decide (1<p.length)&&decide (p.head?=some 48))
theorem foldl_ge:∀ (r:List Nat) (v:Nat),v<=r.foldl (fun a c=>a*10+(c - 48)) v
 | [],v=>Nat.le_refl _
 | c::r,v=>Nat.le_trans (by lia) (foldl_ge r (v*10+(c - 48)))
theorem kW {c:Nat} (h:aM c=true):∃ d:Fin 10,c=48+d.1:=by
 unfold aM at h
 simp only[Bool.and_eq_true,decide_eq_true_eq] at h
 exact⟨⟨c - 48,by omega⟩,by simp;omega⟩
theorem l0 (p:List Nat):je p↔jf p=true/\digitsVal p<=255:=by
 unfold je jf
 simp only[Bool.and_eq_true,Bool.not_eq_true',Bool.and_eq_false_iff,decide_eq_false_iff_not]
 constructor
 ·rintro ⟨h1,h2,h3⟩
  have:∀ v:Fin 256,(bG ((v.1:Nat):Int)).isEmpty=false/\(¬ 1<(bG ((v.1:Nat):Int)).length∨¬ (bG ((v.1:Nat):Int)).head?=some 48):=by decide +kernel
  have:=this ⟨digitsVal p,by lia⟩
  dsimp only at this
  rw[h2] at this
  exact⟨⟨⟨this.1,h1⟩,this.2⟩,h3⟩
 ·rintro ⟨⟨⟨h0,h1⟩,h2⟩,h3⟩
  refine⟨h1,?_,h3⟩
  match p,h0,h1,h2,h3 with
  | [],h0,_,_,_=>contradiction
  | [a],_,h1,_,_=>
   simp only[List.all_cons,Bool.and_eq_true] at h1
   refine Exists.elim (kW h1.1) fun x av=>?_;subst av
   have:∀ x:Fin 10,bG (digitsVal [48+x.1]:Nat)=[48+x.1]:=by decide +kernel
   exact this x
  | [a,b],_,h1,h2,_=>
   simp only[List.all_cons,Bool.and_eq_true] at h1
   refine Exists.elim (kW h1.1) fun x av=>?_;subst av
   refine Exists.elim (kW h1.2.1) fun y av=>?_;subst av
   have pF:x.1≠0:=fun q=>by simp[q] at h2
   have:∀ x y:Fin 10,x.1≠0->bG (digitsVal [48+x.1,48+y.1]:Nat)=[48+x.1,48+y.1]:=by decide +kernel
   exact this x y pF
  | [a,b,c],_,h1,h2,_=>
   simp only[List.all_cons,Bool.and_eq_true] at h1
   refine Exists.elim (kW h1.1) fun x av=>?_;subst av
   refine Exists.elim (kW h1.2.1) fun y av=>?_;subst av
   refine Exists.elim (kW h1.2.2.1) fun z av=>?_;subst av
   have pF:x.1≠0:=fun q=>by simp[q] at h2
   have:∀ x y z:Fin 10,x.1≠0->bG (digitsVal [48+x.1,48+y.1,48+z.1]:Nat)=[48+x.1,48+y.1,48+z.1]:=by decide +kernel
   exact this x y z pF
  | a::b::c::d::r,_,h1,h2,h3=>
   exfalso
   simp only[List.all_cons,Bool.and_eq_true] at h1
   refine Exists.elim (kW h1.1) fun x av=>?_;subst av
   have pF:x.1≠0:=fun q=>by simp[q] at h2
   have:=foldl_ge r (((x.1*10+(b - 48))*10+(c - 48))*10+(d - 48))
   have e:digitsVal ((48+x.1)::b::c::d::r)=r.foldl (fun a c=>a*10+(c - 48)) (((x.1*10+(b - 48))*10+(c - 48))*10+(d - 48)):=by
    unfold digitsVal
    simp only[List.foldl_cons]
    congr 1
    lia
   rw[e] at h3
   lia
theorem jg {D:Fn->List V->R V}{T B P o4 o5:Option V} (p:List Nat):ak D (.not (.aG .isdigit (.loc 3) .nil)) [T,B,P,some (.bytes p),o4,o5]=.ok (.bool !(!p.isEmpty&&p.all aM)):=E.not (x:=.bool (!p.isEmpty&&p.all aM)) (E.aG rfl rfl rfl rfl) rfl
theorem uc {D:Fn->List V->R V}{T B P o4 o5:Option V}:∀ p:List Nat,ak D (.and (.cmp .gt (.prim .len (.cons (.loc 3) .nil)) (.const (.int 1))) (.cmp .eq (.idx (.loc 3) (.const (.int 0))) (.prim .ord (.cons (.const (.str [48])) .nil)))) [T,B,P,some (.bytes p),o4,o5]=.ok (.bool (decide (1<p.length)&&decide (p.head?=some 48)))
 | []=>rfl
 | a::q=>C.and (E.cmp (op:=.gt) (x:=vi (q.length+1)) (y:=vi 1) rfl rfl (bZ (fP 1 _))) (E.cmp (op:=.eq) (x:=vi a) (y:=vi 48) rfl rfl (bZ ((e7 a 48).trans (decide_eq_decide.mpr ⟨congrArg some,Option.some.inj⟩))))
theorem Jl {D:Fn->List V->R V}{T B P:Option V}{o4 o5:Option V} (ps:List (List Nat)) (o:Option V) :
  (ps.all jf=true/\∃ o',dg 3 (aj D nq) (ps.map V.bytes) [T,B,P,o,o4,o5]=.next [T,B,P,o',o4,o5])∨(ps.all jf=false/\∃ J,dg 3 (aj D nq) (ps.map V.bytes) [T,B,P,o,o4,o5]=.exc .syntax J):=by
 refine F.scan (C:=fun o=>[T,B,P,o,o4,o5]) (Z:=fun s=>∃ J,s=.exc .syntax J) (fun O O=>rfl) (fun s k ⟨J,h⟩=>h ▸ rfl) (fun p h=>?_) (fun p h=>?_) ps o
 ·rw[jf,Bool.and_eq_true] at h
  exact S.seq (S.skip ((jg p).trans (bZ (congrArg (!·) h.1)))) (S.one (S.skip ((uc p).trans (bZ (Tp h.2)))))
 ·cases hd:(!p.isEmpty&&p.all aM) with
  | false=>exact⟨_,S.fu ((S.aE (jg p) (congrArg (!·) hd)).trans rfl)⟩
  | true=>
   rw[jf,hd,Bool.true_and] at h
   exact⟨_,S.seq (S.skip ((jg p).trans (bZ (congrArg (!·) hd)))) (S.fu ((S.aE (uc p) (Tq h)).trans rfl))⟩
theorem eI {c:Nat}:∀ (t:List Nat) (p:List Nat),p∈ag c t->p.length<=t.length
 | [],p,h=>by simp[fA,aS] at h;subst h;exact Nat.le_refl _
 | x::r,p,h=>by
  rw[aS] at h
  split at h
  ·rcases List.mem_cons.mp h with h | h
   ·subst h;simp
   ·have:=eI r p h;simp;lia
  ·refine bT (bR (c:=c) r) fun q qs e=>?_
   rw[e] at h
   rcases List.mem_cons.mp h with h | h
   ·subst h
    have:=eI r q (by rw[e];exact .head _)
    simp;lia
   ·have:=eI r p (by rw[e];exact .tail _ h)
    simp;lia
noncomputable def kX (l:List Nat):R V:=if l=[] then .exc .syntax else .ok (.bytes l)
set_option tactic.hygienic true in
theorem qQ {l:List Nat}:bq .bytes [.list (vl l)]=if ∀ x∈l,x<256 then .ok (.bytes l) else .exc .value:=by
 split
 ·rename_i h;exact qL h
 ·rename_i h
  unfold bq
  dsimp only
  rw[C3]
  dsimp only
  rw[if_neg,R.guard,if_pos]
  ·simp
  ·intro q
   apply h
   intro x hx
   rw[List.all_eq_true] at q
   have:=q (x:Int) (List.mem_map.mpr ⟨x,hx,rfl⟩)
   simp at this
   omega
theorem qR {n:Nat}{a:V} (t:List Nat) (hl:t.length<=520):(aj (ae defs n) tI [some a,some (.bytes t),none,none,none,none]).value=kX (aH t):=by
 have s1:bQ (ae defs n) tG [some a,some (.bytes t),none,none,none,none]=.next [some a,some (.bytes t),some (.list ((ag 46 t).map V.bytes)),none,none,none]:=S.assign (E.aG rfl rfl rfl (e8 (Nat.le_trans hl (by decide)) rfl))
 rw[dX]
 by_cases h4:(ag 46 t).length=4
 ·have s2:bQ (ae defs n) tH [some a,some (.bytes t),some (.list ((ag 46 t).map V.bytes)),none,none,none]=.next [some a,some (.bytes t),some (.list ((ag 46 t).map V.bytes)),none,none,none]:=S.skip ((E.neN (E.Jf rfl) rfl).trans (bZ (by rw[decide_eq_true h4];rfl)))
  have hlen:((ag 46 t).map V.bytes).length<=lim:=by rw[List.length_map,h4];decide
  rcases Jl (D:=ae defs n) (T:=some a) (B:=some (.bytes t)) (P:=some (.list ((ag 46 t).map V.bytes))) (o4:=none) (o5:=none) (ag 46 t) none with ⟨hp,o',e⟩ | ⟨hp,J,e⟩
  ·have hp:=List.all_eq_true.mp hp
   have hm:((ag 46 t).map V.bytes).map (fun x=>match x with | .bytes p=>vi (digitsVal p) | _=>.none)=vl ((ag 46 t).map digitsVal):=by show _=List.map vi _;rw[List.map_map,List.map_map];rfl
   have xO:ak (ae defs n) (.comp (.prim .int (.cons (.loc 5) .nil)) 5 (.val (.loc 2)) (.const (.bool true))) [some a,some (.bytes t),some (.list ((ag 46 t).map V.bytes)),o',none,none]=.ok (.list (vl ((ag 46 t).map digitsVal))):=by
    refine hm ▸ E.map (f:=fun x=>match x with | .bytes p=>vi (digitsVal p) | _=>.none) rfl hlen fun x hx=>?_
    refine Exists.elim (List.mem_map.mp hx) fun y zz=>aB zz fun hy av=>?_;clear zz;subst av
    have h1:=hp y hy
    rw[jf,Bool.and_eq_true] at h1
    exact E.prim (E.one rfl) (Gf (Bool.and_eq_true_iff.mpr ⟨h1.1,decide_eq_true (Nat.le_trans (eI t y hy) (Nat.le_trans hl (by decide)))⟩) rfl)
   by_cases hv:∀ x∈(ag 46 t).map digitsVal,x<256
   ·rw[if_pos ⟨h4,fun q hq=>(l0 q).mpr ⟨hp q hq,Nat.le_of_lt_succ (hv (digitsVal q) (List.mem_map.mpr ⟨q,hq,rfl⟩))⟩⟩]
    refine (S.val (S.seq s1 (S.seq s2 (S.seq (S.for rfl hlen e) (S.end (S.C1 (S.seq (S.assign xO) (S.end (S.ret (E.prim (E.one rfl) (qQ.trans (if_pos hv)))))))))))).trans (if_neg fun q=>?_).symm
    have:=congrArg List.length q
    rw[List.length_map,h4] at this
    contradiction
   ·rw[if_neg fun q=>hv fun x hx=>Exists.elim (List.mem_map.mp hx) fun y z=>z.2 ▸ Nat.lt_succ_of_le ((l0 y).mp (q.2 y z.1)).2]
    exact S.kS (S.seq s1 (S.seq s2 (S.seq (S.for rfl hlen e) (S.fu (S.C2 (S.seq (S.assign xO) (S.fu (S.Wh (E.prim (E.one rfl) (qQ.trans (if_neg hv)))))) rfl)))))
  ·rw[if_neg fun q=>Bool.false_ne_true (hp.symm.trans (List.all_eq_true.mpr fun p h=>((l0 p).mp (q.2 p h)).1))]
   exact S.kS (S.seq s1 (S.seq s2 (S.fu (S.for rfl hlen e))))
 ·rw[if_neg fun q=>h4 q.1]
  exact S.kS (S.seq s1 (S.fu ((S.aE (E.neN (E.Jf rfl) rfl) (by rw[decide_eq_false h4];rfl)).trans rfl)))
theorem NC {n:Nat} (t:List Nat) (ha:ascii t=true) (hl:t.length<=520):ae defs (n+1) .eE [.str t]=kX (aH t):=by
 show (aj (ae defs n) uW [some (.str t),none,none,none,none,none]).value=_
 rw[<- qR (n:=n) (a:=.str t) t hl]
 exact congrArg SR.value (S.seq ((S.aE (E.not (x:=.bool false) rfl rfl) rfl).trans (S.one (S.assign (E.aG rfl rfl rfl (Gf ha rfl))))) rfl)
theorem Jm {n:Nat} (t:List Nat) (hl:t.length<=520):ae defs (n+1) .eE [.bytes t]=kX (aH t):=by
 show (aj (ae defs n) uW [some (.bytes t),none,none,none,none,none]).value=_
 rw[<- qR (n:=n) (a:=.bytes t) t hl]
 exact congrArg SR.value (S.seq rfl rfl)
noncomputable def cj (c:Nat):Option Nat:=if 48<=c/\c<=57 then some (c - 48) else if 97<=c/\c<=102 then some (c - 87) else if 65<=c/\c<=70 then some (c - 55) else none
theorem jN {c d:Nat} (h:cj c=some d):d<16:=by
 unfold cj at h
 split at h
 ·injection h with h;subst h;omega
 ·split at h
  ·injection h with h;subst h;omega
  ·split at h
   ·injection h with h;subst h;omega
   ·contradiction
theorem ND {c:Nat} (h:c<128):match cj c with
  | some d=>(dU c=(d:Int)/\d<=15)∨(dU c=((d+6:Nat):Int)/\15<d+6)
  | none=>dU c<0:=by
 have:∀ c:Fin 128,(match cj c.1 with
  | some d=>(dU c.1=(d:Int)/\d<=15)∨(dU c.1=((d+6:Nat):Int)/\15<d+6)
  | none=>dU c.1<0):=by
  intro c
  have:∀ c:Fin 128,(match cj c.1 with
   | some d=>(decide (dU c.1=(d:Int))&&decide (d<=15))||(decide (dU c.1=((d+6:Nat):Int))&&decide (15<d+6))
   | none=>decide (dU c.1<0))=true:=by decide +kernel
  have:=this c
  revert this
  cases cj c.1 with
  | none=>intro h;exact of_decide_eq_true h
  | some d=>intro h;simpa using h
 exact this ⟨c,h⟩
noncomputable def cX:List Nat->Nat->Option Nat
 | [],v=>some v
 | c::r,v=>match cj c with
  | some d=>cX r (v*16+d)
  | none=>none
theorem nF:cX [] v=some v:=rfl
theorem dY:cX (c::r) v=(match cj c with
  | some d=>cX r (v*16+d)
  | none=>none):=rfl
theorem fD (h:cj c=some d):cX (c::r) v=cX r (v*16+d):=by rw[dY,h]
noncomputable def aQ (p:List Nat):Option Nat:=if p.length<1∨4<p.length then none else cX p 0
noncomputable def Jn (o:Option Nat):Int:=match o with
 | some v=>(v:Int)
 | none=>-1
theorem ud:∀ {p:List Nat}{v k w:Nat},v<16 ^ k->cX p v=some w->w<16 ^ (k+p.length)
 | [],v,k,w,hv,h=>by injection h with h;subst h;simpa using hv
 | c::r,v,k,w,hv,h=>by
  rw[dY] at h
  cases q:cj c with
  | some d=>
   rw[q] at h
   have:=jN q
   have:=ud (k:=k+1) (by rw[Nat.pow_succ];lia) h
   rwa [show k+(c::r).length=k+1+r.length by rw[List.length_cons];lia]
  | none=>rw[q] at h;contradiction
theorem Gk {p:List Nat}{v:Nat} (h:aQ p=some v):v<65536:=by
 unfold aQ at h
 split at h
 ·contradiction
 ·have:=ud (k:=0) (by decide) h
  have h2:(16:Nat) ^ (0+p.length)<=16 ^ 4:=Nat.pow_le_pow_right (by decide) (by lia)
  have:(16:Nat) ^ 4=65536:=rfl
  lia
theorem C5 {v:Nat} (h:v<16 ^ 100):(v:Int).natAbs<pB:=C4 h (by decide)
theorem NF {m K:Nat} (hm:m<16 ^ 100) (hK:K<16 ^ 100:=by decide):sN .mul (vi m) (vi K)=.ok (vi (m*K)):=by
 show R.guard (decide ((m:Int).natAbs<pB)&&decide ((K:Int).natAbs<pB)) _=_
 rw[decide_eq_true (C5 hm),decide_eq_true (C5 hK)];rfl
theorem AK {D:Fn->List V->R V}{T o:Option V}{v c:Nat} (hc:c<128) (hv:v<16 ^ 100):match cj c with
  | some d=>aj D fO [T,some (vi v),some (.str [c]),o]=.next [T,some (vi (v*16+d)),some (.str [c]),some (vi d)]
  | none=>aj D fO [T,some (vi v),some (.str [c]),o]=.ret (.int (-1)):=by
 have e1:∀ {z:Int},dU c=z->bQ D (.assign 3 (.aG .find (.glob cN) (.cons (.loc 2) .nil))) [T,some (vi v),some (.str [c]),o]=.next [T,some (vi v),some (.str [c]),some (.int z)]:=fun h=>h ▸ S.assign (E.aG rfl rfl (E.one rfl) rfl)
 have ht:=ND hc
 have fin:∀ d,aj D (.cons (.assign 1 (.bin .add (.bin .mul (.loc 1) (.const (.int 16))) (.loc 3))) .nil) [T,some (vi v),some (.str [c]),some (vi d)]=.next [T,some (vi (v*16+d)),some (.str [c]),some (vi d)]:=fun d=>
  S.one (S.assign (v:=vi (v*16+d)) (E.bin (x:=vi (v*16)) (y:=vi d) (E.bin (x:=vi v) (y:=vi 16) rfl rfl (NF hv)) rfl rfl))
 have pos:∀ d:Nat,bQ D (.ite (.cmp .lt (.loc 3) (.const (.int 0))) (.cons (.ret (.const (.int (-1)))) .nil) .nil) [T,some (vi v),some (.str [c]),some (vi d)]=.next [T,some (vi v),some (.str [c]),some (vi d)]:=fun d=>S.skip (E.cmp (op:=.lt) (x:=vi d) (y:=vi 0) rfl rfl (bZ ((fP d 0).trans (decide_eq_false (Nat.not_lt_zero d)))))
 cases hx:cj c with
 | none=>
  rw[hx] at ht
  exact S.seq (e1 rfl) (S.end ((S.aE (E.cmp (op:=.lt) (x:=.int (dU c)) (y:=.int 0) rfl rfl (bZ (decide_eq_true ht))) rfl).trans rfl))
 | some d=>
  rw[hx] at ht
  rcases ht with ⟨h1,h2⟩ | ⟨h1,h2⟩
  ·exact S.seq (e1 h1) (S.seq (pos d) (S.seq (S.skip (E.cmp (op:=.gt) (x:=vi d) (y:=vi 15) rfl rfl (bZ ((fP 15 d).trans (decide_eq_false (Nat.not_lt.mpr h2)))))) (fin d)))
  ·exact S.seq (e1 h1) (S.seq (pos (d+6)) (S.seq (ρ':=[T,some (vi v),some (.str [c]),some (vi d)]) ((S.aE (E.cmp (op:=.gt) (x:=vi (d+6)) (y:=vi 15) rfl rfl (bZ ((fP 15 (d+6)).trans (decide_eq_true h2)))) rfl).trans (S.one (S.assign (v:=vi d) (E.bin (x:=vi (d+6)) (y:=vi 6) rfl rfl (qJ (Int.ofNat_sub (Nat.le_add_left 6 d)).symm))))) (fin d)))
theorem Gm {D:Fn->List V->R V}{T:Option V}:∀ (cs:List Nat) (v k:Nat) (o2 o3:Option V),(∀ c∈cs,c<128)->v<16 ^ k->k+cs.length<=50->
  match cX cs v with
  | some w=>∃ a b,dg 2 (aj D fO) (cs.map fun c=>V.str [c]) [T,some (vi v),o2,o3]=.next [T,some (vi w),a,b]
  | none=>dg 2 (aj D fO) (cs.map fun c=>V.str [c]) [T,some (vi v),o2,o3]=.ret (.int (-1)):=by
 intro z0
 induction z0 with
 | nil=>
  exact fun v k o2 o3 O O O=>⟨_,_,rfl⟩
 | cons c r ih=>
  intro v k o2 o3 hc hv hk
  have hb:=AK (D:=D) (T:=T) (o:=o3) (hc c (.head _)) (Nat.lt_of_lt_of_le hv (Nat.pow_le_pow_right (by decide) (Nat.le_trans (Nat.le_add_right _ _) (Nat.le_trans hk (by decide)))))
  rw[dY]
  cases hx:cj c with
  | none=>rw[hx] at hb;exact F.stop hb
  | some d=>
   rw[hx] at hb
   have hd:=jN hx
   have ih:=ih (v*16+d) (k+1) (some (.str [c])) (some (vi d)) (fun c Nz=>hc c (.tail _ Nz)) (by rw[Nat.pow_succ];lia) (by rw[Nat.add_right_comm];exact hk)
   dsimp only
   cases hr:cX r (v*16+d) with
   | none=>rw[hr] at ih;exact F.cons hb ih
   | some w=>rw[hr] at ih;exact ih.imp fun a h=>h.imp fun b e=>F.cons hb e
theorem fQ {t:List Nat} (h:∀ c∈t,c<128):ascii t=true:=by
 unfold ascii
 rw[List.all_eq_true]
 exact fun c hc=>decide_eq_true (h c hc)
theorem Jo {D:Fn->List V->R V}{J:Ρ}{e:PE}{t:List Nat} (h:ak D e J=.ok (.str t)) (ha:∀ c∈t,c<128):gG D (.val e) J=.ok (t.map fun c=>V.str [c]):=by
 exact f7 h (Gf (fQ ha) rfl)
theorem NH {n:Nat} (p:List Nat) (hp:∀ c∈p,c<128):ae defs (n+1) .iZ [.str p]=.ok (.int (Jn (aQ p))):=by
 have hc:ak (ae defs n) (.or (.cmp .lt (.prim .len (.cons (.loc 0) .nil)) (.const (.int 1))) (.cmp .gt (.prim .len (.cons (.loc 0) .nil)) (.const (.int 4)))) [some (.str p),none,none,none]=.ok (.bool (decide (p.length<1)||decide (4<p.length))):=
  C.or (E.cmp (x:=vi p.length) (y:=vi 1) rfl rfl (bZ (fP _ 1))) (E.cmp (x:=vi p.length) (y:=vi 4) rfl rfl (bZ (fP 4 _)))
 unfold aQ
 by_cases h:p.length<1∨4<p.length
 ·rw[if_pos h]
  exact S.val (p:=i9) (S.end ((S.aE hc (by rw[<- Bool.decide_or];exact decide_eq_true h)).trans rfl))
 ·rw[if_neg h]
  have h4:p.length<=4:=Nat.le_of_not_lt fun q=>h (.inr q)
  have e:=Gm (D:=ae defs n) (T:=some (.str p)) p 0 0 none none hp (by decide) (by rw[Nat.zero_add];exact Nat.le_trans h4 (by decide))
  have hf:bQ (ae defs n) qA [some (.str p),some (vi 0),none,none]=_:=S.for (Jo rfl hp) (by rw[List.length_map];exact Nat.le_trans h4 (by decide)) rfl
  have go:∀ {z:SR},aj (ae defs n) qB [some (.str p),some (vi 0),none,none]=z->aj (ae defs n) i9 [some (.str p),none,none,none]=z:=fun h'=>S.seq (S.skip (hc.trans (bZ (by rw[<- Bool.decide_or];exact decide_eq_false h)))) (S.seq (S.assign rfl) h')
  cases hw:cX p 0 with
  | none=>rw[hw] at e;exact S.val (p:=i9) (go (S.end (hf.trans e)))
  | some w=>rw[hw] at e;refine bT e fun a b e=>?_;exact S.val (p:=i9) (go (S.seq (hf.trans e) (S.end (S.ret rfl))))
noncomputable def nG:List Nat->List Nat
 | [a,b,c,d]=>[a*256+b,c*256+d]
 | _=>[]
theorem Gn (a b c d:Nat):nG [a,b,c,d]=[a*256+b,c*256+d]:=rfl
noncomputable def bI:List (List Nat)->Bool->Option (List Nat)
 | [],_=>some []
 | p::r,e=>match aQ p with
  | some v=>(bI r e).map (v::·)
  | none=>if aH p≠[]/\e=true/\r=[] then some (nG (aH p)) else none
theorem fR:bI (p::r) e=(match aQ p with
  | some v=>(bI r e).map (v::·)
  | none=>if aH p≠[]/\e=true/\r=[] then some (nG (aH p)) else none):=rfl
set_option tactic.hygienic true in
theorem dE {t:List Nat} (h:aH t≠[]):∃ a b c d,aH t=[a,b,c,d]/\a<256/\b<256/\c<256/\d<256:=by
 rw[dX] at h ⊢
 split at h
 ·rename_i q
  rw[if_pos q]
  have hv:∀ x∈(ag 46 t).map digitsVal,x<256:=fun x hx=>by
   obtain⟨y,hy,rfl⟩:=List.mem_map.mp hx
   have:=(q.2 y hy).2.2;lia
  have hl:((ag 46 t).map digitsVal).length=4:=by rw[List.length_map];exact q.1
  revert hv hl
  generalize (ag 46 t).map digitsVal=l
  intro hv hl
  match l,hl with
  | [a,b,c,d],_=>exact⟨a,b,c,d,rfl,hv a (by simp),hv b (by simp),hv c (by simp),hv d (by simp)⟩
 ·exact absurd rfl h
noncomputable def zm (T:Option V) (e:Bool) (acc:List Nat) (all:List (List Nat)) (a b c:Option V):Ρ:=[T,some (.bool e),some (.list (vl acc)),some (.list (all.map V.str)),a,b,c]
theorem AO {D:Fn->List V->R V}{J:Ρ}{i v:Nat}{acc:List Nat}{e:PE} (h1:J[i]?=some (some (.list (vl acc)))) (h:ak D e J=.ok (vi v)) (hl:acc.length<1000000):bQ D (.append i e) J=.next (J.set i (some (.list (vl (acc++[v]))))):=by
 rw[S.append h1 h (by rw[List.length_map];exact hl) rfl,<- List.map_singleton (f:=vi),<- List.map_append]
theorem Gp {n:Nat}{T:Option V}{all:List (List Nat)}{e:Bool}{p:List Nat} (hp:∀ c∈p,c<128) (zr:p.length<=520) {k:Nat} (hk:all[k]?=some p) {acc:List Nat} (hl:acc.length<100000) {b c:Option V}:match aQ p with
  | some v=>aj (ae defs (n+1)) fC (zm T e acc all (some (vi k)) b c)=.next (zm T e (acc++[v]) all (some (vi k)) (some (vi v)) c)
  | none=>if aH p≠[]/\e=true/\k+1=all.length then aj (ae defs (n+1)) fC (zm T e acc all (some (vi k)) b c)=.next (zm T e (acc++nG (aH p)) all (some (vi k)) (some (.int (-1))) (some (.list (vl (aH p)))))
   else aj (ae defs (n+1)) fC (zm T e acc all (some (vi k)) b c)=.ret .none:=by
 have at_:∀ (b:Option V),cS (ae defs (n+1)) (.cons (.idx (.loc 3) (.loc 4)) .nil) (zm T e acc all (some (vi k)) b c)=.ok [.str p]:=fun b=>E.one (E.idx rfl rfl rfl (ej (xs:=all.map V.str) (p:=k) (by rw[List.getElem?_map,hk];rfl)))
 have e1:bQ (ae defs (n+1)) (.assign 5 (.call .iZ (.cons (.idx (.loc 3) (.loc 4)) .nil))) (zm T e acc all (some (vi k)) b c)=.next (zm T e acc all (some (vi k)) (some (.int (Jn (aQ p)))) c):=S.assign (E.call (at_ b) (NH p hp))
 cases hv:aQ p with
 | some v=>
  rw[hv] at e1
  exact S.seq e1 (S.one ((S.aE (E.cmp (op:=.ge) (x:=vi v) (y:=vi 0) rfl rfl (bZ ((Tj 0 v).trans (decide_eq_true (Nat.zero_le v))))) rfl).trans (S.one (AO rfl rfl (Nat.lt_trans hl (by decide))))))
 | none=>
  rw[hv] at e1
  have e2:bQ (ae defs (n+1)) (.assign 6 (.call .lM (.cons (.idx (.loc 3) (.loc 4)) .nil))) (zm T e acc all (some (vi k)) (some (.int (-1))) c)=.next (zm T e acc all (some (vi k)) (some (.int (-1))) (some (.list (vl (aH p))))):=S.assign (E.call (at_ _) (Jk p hp zr))
  have hq:V.eq (.list (vl (aH p))) (.list [])=.ok (decide (aH p=[])):=by cases aH p<;>rfl
  have h1:1<=all.length:=Nat.le_trans (Nat.succ_pos k) (List.getElem?_eq_some_iff.mp hk).1
  have hc:ak (ae defs (n+1)) (.or (.cmp .eq (.loc 6) (.list .nil)) (.or (.not (.loc 1)) (.cmp .ne (.loc 4) (.bin .sub (.prim .len (.cons (.loc 3) .nil)) (.const (.int 1)))))) (zm T e acc all (some (vi k)) (some (.int (-1))) (some (.list (vl (aH p)))))=.ok (.bool (decide (aH p=[])||(!e||!decide (k=all.length - 1)))):=
   C.or (E.cmp (x:=.list (vl (aH p))) (y:=.list []) rfl rfl (by rw[vG,hq];rfl)) (C.or (E.not (x:=.bool e) rfl rfl) (E.cmp (op:=.ne) (x:=vi k) (y:=vi (all.length - 1)) rfl (E.bin (x:=.int (all.map V.str).length) (y:=.int 1) rfl rfl (qJ (by rw[List.length_map];exact (Int.ofNat_sub h1).symm))) (bZ (congrArg Bool.not (e7 k _)))))
  have he:decide (k=all.length - 1)=decide (k+1=all.length):=decide_eq_decide.mpr (by lia)
  rw[he] at hc
  dsimp only
  by_cases h:aH p≠[]/\e=true/\k+1=all.length
  ·rw[if_pos h]
   have h0:(decide (aH p=[])||(!e||!decide (k+1=all.length)))=false:=by rw[decide_eq_false h.1,h.2.1,decide_eq_true h.2.2];rfl
   refine S.seq e1 (S.one ((S.cO (E.cmp (op:=.ge) (x:=.int (-1)) (y:=.int 0) rfl rfl rfl) rfl).trans (S.seq e2 (S.seq (S.skip (hc.trans (bZ h0))) ?_))))
   refine kK (dE h.1) fun w x y z zz=>nk zz fun q hw Tt hy hz=>?_
   rw[q]
   have big:∀ {v:Nat},v<256->v<16 ^ 100:=fun h=>Nat.lt_trans h (by decide)
   have h2:(acc++[w*256+x]).length<1000000:=by rw[List.length_append];exact Nat.lt_trans (Nat.add_lt_add_right hl 1) (by decide)
   refine (S.seq (AO (v:=w*256+x) rfl (E.bin (x:=vi (w*256)) (y:=vi x) (E.bin (x:=vi w) (y:=vi 256) rfl rfl (NF (big hw))) rfl rfl) (Nat.lt_trans hl (by decide))) (S.one (AO (acc:=acc++[w*256+x]) (v:=y*256+z) rfl (E.bin (x:=vi (y*256)) (y:=vi z) (E.bin (x:=vi y) (y:=vi 256) rfl rfl (NF (big hy))) rfl rfl) h2))).trans ?_
   rw[List.append_assoc];rfl
  ·rw[if_neg h]
   have h0:(decide (aH p=[])||(!e||!decide (k+1=all.length)))=true:=by
    by_cases a:aH p=[]
    ·rw[decide_eq_true a];rfl
    ·rw[decide_eq_false a]
     cases e with
     | false=>rfl
     | true=>rw[decide_eq_false fun q=>h ⟨a,rfl,q⟩];rfl
   exact S.seq e1 (S.end ((S.cO (E.cmp (op:=.ge) (x:=.int (-1)) (y:=.int 0) rfl rfl rfl) rfl).trans (S.seq e2 (S.end ((S.aE hc h0).trans rfl)))))
theorem Jp {n:Nat}{T:Option V}{all:List (List Nat)}{e:Bool} (qP:∀ p∈all,(∀ c∈p,c<128)/\p.length<=520):∀ (rem pre:List (List Nat)) (acc:List Nat) (a b c:Option V),all=pre++rem->acc.length+2*rem.length<=5000->
  match bI rem e with
  | some g=>∃ a' b' c',dg 4 (aj (ae defs (n+1)) fC) ((List.range' pre.length rem.length).map vi) (zm T e acc all a b c)=.next (zm T e (acc++g) all a' b' c')
  | none=>dg 4 (aj (ae defs (n+1)) fC) ((List.range' pre.length rem.length).map vi) (zm T e acc all a b c)=.ret .none:=by
 intro z0
 induction z0 with
 | nil=>
  exact fun pre acc a b c O O=>⟨a,b,c,by rw[List.append_nil];rfl⟩
 | cons p r ih=>
  intro pre acc a b c hsplit Q6
  have hp:=qP p (by rw[hsplit];exact List.mem_append_right _ (.head _))
  have hk:all[pre.length]?=some p:=by rw[hsplit,List.getElem?_append_right (Nat.le_refl _),Nat.sub_self];rfl
  have hlen:pre.length+1=all.length↔r=[]:=by
   rw[hsplit,List.length_append,List.length_cons,<- Nat.add_assoc,Nat.add_right_comm]
   exact⟨fun q=>List.length_eq_zero_iff.mp (by lia),fun q=>by rw[q];rfl⟩
  rw[List.length_cons] at Q6
  have hb:=Gp (n:=n) (T:=T) (e:=e) hp.1 hp.2 hk (acc:=acc) (by lia) (b:=b) (c:=c)
  rw[fR]
  cases hv:aQ p with
  | some v=>
   rw[hv] at hb
   have ih:=ih (pre++[p]) (acc++[v]) (some (vi pre.length)) (some (vi v)) c (by rw[hsplit,List.append_assoc];rfl) (by rw[List.length_append,List.length_singleton];lia)
   rw[List.length_append,List.length_singleton] at ih
   dsimp only
   cases hr:bI r e with
   | none=>rw[hr] at ih;exact F.cons hb ih
   | some g=>
    rw[hr] at ih
    dsimp only at ih
    rw[List.append_assoc] at ih
    exact ih.imp fun a' h=>h.imp fun b' h=>h.imp fun c' e=>F.cons hb e
  | none=>
   rw[hv] at hb
   dsimp only at hb ⊢
   by_cases hc:aH p≠[]/\e=true/\r=[]
   ·rw[if_pos ⟨hc.1,hc.2.1,hlen.mpr hc.2.2⟩] at hb
    rw[if_pos hc]
    refine b5 hc fun O O av=>?_;try clear hc;subst av
    exact⟨_,_,_,F.cons hb rfl⟩
   ·rw[if_neg fun q=>hc ⟨q.1,q.2.1,hlen.mp q.2.2⟩] at hb
    rw[if_neg hc]
    exact F.stop hb
noncomputable def aZ (t:List Nat) (e:Bool):Option (List Nat):=if t=[] then some [] else bI (ag 58 t) e
noncomputable def ov (o:Option (List Nat)):V:=match o with
 | some g=>.list (vl g)
 | none=>.none
theorem ix {c:Nat}:∀ (t:List Nat) (p:List Nat) (x:Nat),p∈ag c t->x∈p->x∈t:=by
 intro z0
 induction z0 with
 | nil=>
  intro p x h hx
  simp[fA,aS] at h;subst h;contradiction
 | cons y r ih=>
  intro p x h hx
  rw[aS] at h
  split at h
  ·rcases List.mem_cons.mp h with h | h
   ·subst h;contradiction
   ·exact .tail _ (ih p x h hx)
  ·refine bT (bR (c:=c) r) fun q qs e=>?_
   rw[e] at h
   dsimp only at h
   rcases List.mem_cons.mp h with h | h
   ·subst h
    rcases List.mem_cons.mp hx with hx | hx
    ·subst hx;exact .head _
    ·exact .tail _ (ih q x (by rw[e];exact .head _) hx)
   ·exact .tail _ (ih p x (by rw[e];exact .tail _ h) hx)
theorem vK {c:Nat}:∀ t:List Nat,(ag c t).length<=t.length+1:=by
 intro z0
 induction z0 with
 | nil=>exact  Nat.le_refl _
 | cons y r ih=>
  have:=ih
  refine bT (bR (c:=c) r) fun q qs e=>?_
  rw[aS]
  split
  ·simp;lia
  ·rw[e] at this ⊢
   simp at this ⊢;lia
theorem Jq (k:Nat):ig 0 (k:Int) 1=(List.range' 0 k).map vi:=by
 unfold ig
 rw[List.range_eq_range']
 have:(((k:Int) - 0).toNat+1 - 1) / 1=k:=by simp
 rw[this]
 apply List.map_congr_left
 intro x _
 show V.int _=V.int _
 congr 1
 lia
theorem fE {D:Fn->List V->R V}{p:PE}{J:Ρ}{k:Nat} (h:ak D p J=.ok (.int k)) (hk:k<=1000000):gG D (.sM (.const (.int 0)) p 1) J=.ok ((List.range' 0 k).map vi):=by
 refine f7 h (Gf ?_ (congrArg R.ok (Jq k)))
 exact Bool.and_eq_true_iff.mpr ⟨rfl,decide_eq_true (by rw[Int.natAbs_natCast];exact hk)⟩
theorem AP {n:Nat} (t:List Nat) (e:Bool) (ht:∀ c∈t,c<128) (hl:t.length<=520):ae defs (n+2) .lN [.str t,.bool e]=.ok (ov (aZ t e)):=by
 have XF:ak (ae defs (n+1)) (.cmp .eq (.loc 0) (.const (.str []))) [some (.str t),some (.bool e),none,none,none,none,none]=.ok (.bool (decide (t=[]))):=E.cmp (x:=.str t) (y:=.str []) rfl rfl (by rw[vG];rfl)
 unfold aZ
 by_cases h0:t=[]
 ·rw[if_pos h0]
  exact S.val (p:=lT) (S.end ((S.aE XF (decide_eq_true h0)).trans rfl))
 ·rw[if_neg h0]
  have Jr:=vK (c:=58) t
  have hm:(ag 58 t).length<=1000:=Nat.le_trans Jr (Nat.le_trans (Nat.add_le_add_right hl 1) (by decide))
  have h:=Jp (n:=n) (T:=some (.str t)) (all:=ag 58 t) (e:=e) (fun p hp=>⟨fun c hc=>ht c (ix t p c hp hc),Nat.le_trans (eI t p hp) hl⟩) (ag 58 t) [] [] none none none rfl (by rw[List.length_nil,Nat.zero_add];exact Nat.le_trans (Nat.mul_le_mul_left 2 hm) (by decide))
  have go:∀ {z:SR},aj (ae defs (n+1)) tW (zm (some (.str t)) e [] (ag 58 t) none none none)=z->aj (ae defs (n+1)) lT [some (.str t),some (.bool e),none,none,none,none,none]=z:=fun h'=>
   S.seq (S.skip (XF.trans (bZ (decide_eq_false h0)))) (S.seq (S.own (l:=[]) rfl) (S.seq (S.assign (E.aG (x:=.str t) rfl rfl (E.one rfl) ((Gb t 58).trans (e8 (Nat.le_trans hl (by decide)) rfl)))) h'))
  have hf:bQ (ae defs (n+1)) tV (zm (some (.str t)) e [] (ag 58 t) none none none)=_:=S.for (fE (k:=(ag 58 t).length) (E.prim (E.one rfl) (qJ (by rw[List.length_map]))) (Nat.le_trans hm (by decide))) (by rw[List.length_map,List.length_range'];exact Nat.le_trans hm (by decide)) rfl
  rw[List.length_nil] at h
  cases hg:bI (ag 58 t) e with
  | none=>rw[hg] at h;exact S.val (p:=lT) (go (S.end (hf.trans h)))
  | some g=>rw[hg] at h;refine eA h fun a b c h=>?_;exact S.val (p:=lT) (go (S.seq (hf.trans h) (S.end (S.ret rfl))))
section
variable {α:Type}
theorem qS (s:List α) (a:Nat):cut s 0 (min a s.length)=s.take a:=by
 unfold cut
 rw[List.drop_zero,Nat.sub_zero]
 by_cases h:a<=s.length
 ·rw[Nat.min_eq_left h]
 ·rw[Nat.min_eq_right (by lia),List.take_length,List.take_of_length_le (by lia)]
theorem qT (s:List α) (a:Nat):cut s (min a s.length) s.length=s.drop a:=by
 unfold cut
 by_cases h:a<=s.length
 ·rw[Nat.min_eq_left h,List.take_of_length_le (by rw[List.length_drop];lia)]
 ·rw[Nat.min_eq_right (by lia),Nat.sub_self,List.take_zero,List.drop_eq_nil_of_le (by lia)]
theorem vL (s:List α) (a b:Nat) (Wi:a<=b):cut s (min a s.length) (min b s.length)=(s.drop a).take (b - a):=by
 unfold cut
 by_cases h:a<=s.length
 ·rw[Nat.min_eq_left h]
  by_cases h2:b<=s.length
  ·rw[Nat.min_eq_left h2]
  ·rw[Nat.min_eq_right (by lia),List.take_of_length_le (by rw[List.length_drop];lia),List.take_of_length_le (by rw[List.length_drop];lia)]
 ·rw[Nat.min_eq_right (by lia),Nat.min_eq_right (by lia),Nat.sub_self,List.take_zero,List.drop_eq_nil_of_le (by lia),List.take_nil]
theorem cA (n d a:Nat):bound n d (.int (a:Int))=some (min a n):=by
 unfold bound
 dsimp only
 rw[if_neg (by lia),Int.toNat_natCast]
end
theorem uf (s:List Nat) (a:Nat):aO (.str s) .none (.int a)=.ok (.str (s.take a)):=by
 unfold aO;dsimp only;rw[cA];dsimp only[bound];rw[qS]
theorem ug (s:List Nat) (a:Nat):aO (.bytes s) .none (.int a)=.ok (.bytes (s.take a)):=by
 unfold aO;dsimp only;rw[cA];dsimp only[bound];rw[qS]
theorem fF (s:List V) (a:Nat):aO (.list s) .none (.int a)=.ok (.list (s.take a)):=by
 unfold aO;dsimp only;rw[cA];dsimp only[bound];rw[qS]
theorem Gq (s:List Nat) (a:Nat):aO (.str s) (.int a) .none=.ok (.str (s.drop a)):=by
 unfold aO;dsimp only;rw[cA];dsimp only[bound];rw[qT]
theorem jO (s:List Nat) (a:Nat):aO (.bytes s) (.int a) .none=.ok (.bytes (s.drop a)):=by
 unfold aO;dsimp only;rw[cA];dsimp only[bound];rw[qT]
theorem fG (s:List V) (a:Nat):aO (.list s) (.int a) .none=.ok (.list (s.drop a)):=by
 unfold aO;dsimp only;rw[cA];dsimp only[bound];rw[qT]
theorem Js (s:List Nat) (a b:Nat) (h:a<=b):aO (.str s) (.int a) (.int b)=.ok (.str ((s.drop a).take (b - a))):=by
 unfold aO;dsimp only;rw[cA,cA];dsimp only;rw[vL _ _ _ h]
theorem md (s:List Nat) (a b:Nat) (h:a<=b):aO (.bytes s) (.int a) (.int b)=.ok (.bytes ((s.drop a).take (b - a))):=by
 unfold aO;dsimp only;rw[cA,cA];dsimp only;rw[vL _ _ _ h]
theorem Jt (s:List V) (a b:Nat) (h:a<=b):aO (.list s) (.int a) (.int b)=.ok (.list ((s.drop a).take (b - a))):=by
 unfold aO;dsimp only;rw[cA,cA];dsimp only;rw[vL _ _ _ h]
noncomputable def aU:Nat->List Nat->List Nat
 | _,[]=>[]
 | n,x::r=>if x=58/\r.head?=some 58 then n::aU (n+1) r else aU (n+1) r
theorem Ju:aU u1 []=([]):=rfl
theorem bX:aU n (x::r)=(if x=58/\r.head?=some 58 then n::aU (n+1) r else aU (n+1) r):=rfl
theorem take2 (x:Nat) (r:List Nat):((x::r).take 2=[58,58])↔x=58/\r.head?=some 58:=by
 cases r with
 | nil=>simp
 | cons y r=>simp
noncomputable def cutAt (t:List Nat):V->Bool
 | .int i=>decide ((t.drop i.toNat).take 2=[58,58])
 | _=>false
theorem xP:∀ (s pre:List Nat),((List.range' pre.length s.length).map vi).filter (cutAt (pre++s))=vl (aU pre.length s):=by
 intro z0
 induction z0 with
 | nil=>
  exact fun pre=>rfl
 | cons x r ih=>
  intro pre
  have ih:=ih (pre++[x])
  rw[List.length_append,List.length_singleton,List.append_assoc,List.singleton_append] at ih
  have e:cutAt (pre++x::r) (vi pre.length)=decide (x=58/\r.head?=some 58):=by
   unfold cutAt
   dsimp only
   rw[Int.toNat_natCast,List.drop_left']
   ·exact decide_eq_decide.mpr (take2 x r)
   ·rfl
  rw[List.length_cons,List.range'_succ,List.map_cons,List.filter_cons,bX,e,ih]
  by_cases h:x=58/\r.head?=some 58
  ·rw[if_pos h,if_pos (decide_eq_true h)];rfl
  ·rw[if_neg h,if_neg (by rw[decide_eq_false h];exact Bool.false_ne_true)]
noncomputable def bA (t:List Nat):Option (List Nat):=match aU 0 t with
 | []=>(match aZ t true with
  | some g=>if g.length=8 then some g else none
  | none=>none)
 | [a]=>(match aZ (t.take a) false,aZ (t.drop (a+2)) true with
  | some l,some r=>if l.length+r.length<=7 then some (l++List.replicate (8 - l.length - r.length) 0++r) else none
  | _,_=>none)
 | _=>none
theorem Gr (k:Nat):(List.replicate k [V.int 0]).flatten=vl (List.replicate k 0):=by
 induction k with
 | zero=>rfl
 | succ k ih=>rw[List.replicate_succ,List.flatten_cons,ih,List.replicate_succ];rfl
theorem vM {a b:List Nat} (h:a.length+b.length<=1000000):sN .add (.list (vl a)) (.list (vl b))=.ok (.list (vl (a++b))):=by
 rw[show vl (a++b)=vl a++vl b from List.map_append];exact e8 (show _<=lim by rw[List.length_map,List.length_map];exact h) rfl
theorem Gs {D:Fn->List V->R V}{J:Ρ}{l r:List Nat} (h3:ak D (.loc 3) J=.ok (.list (vl l))) (h4:ak D (.loc 4) J=.ok (.list (vl r))) (h7:l.length+r.length<=7):bQ D tY J=.ret (.list (vl (l++List.replicate (8 - l.length - r.length) 0++r))):=by
 have e1:ak D (.bin .sub (.bin .sub (.const (.int 8)) (.prim .len (.cons (.loc 3) .nil))) (.prim .len (.cons (.loc 4) .nil))) J=.ok (vi (8 - l.length - r.length)):=
  E.bin (x:=vi (8 - l.length)) (E.bin (x:=vi 8) rfl (E.s6 h3) (qJ (Int.ofNat_sub (Nat.le_trans (Nat.le_add_right _ _) (Nat.le_trans h7 (by decide)))).symm)) (E.s6 h4) (qJ (Int.ofNat_sub (by omega)).symm)
 have h8:8 - l.length - r.length<=8:=Nat.le_trans (Nat.sub_le _ _) (Nat.sub_le _ _)
 generalize 8 - l.length - r.length=k at e1 h8
 have e2:sN .mul (.list [.int 0]) (vi k)=.ok (.list (vl (List.replicate k 0))):=by
  show R.guard (decide (1=1)&&decide ((-1000:Int)<=(k:Int))&&decide ((k:Int)<=1000)) (R.ok (V.list (List.replicate (k:Int).toNat [V.int 0]).flatten))=_
  rw[decide_eq_true rfl,decide_eq_true (show (-1000:Int)<=(k:Int) from Int.le_trans (by decide) (Int.natCast_nonneg k)),decide_eq_true (show (k:Int)<=1000 from Int.ofNat_le.mpr (Nat.le_trans h8 (by decide))),Int.toNat_natCast,Gr];rfl
 refine S.ret (E.bin (E.bin h3 (E.bin rfl e1 e2) (vM ?_)) h4 (vM ?_))
 ·rw[List.length_replicate];exact Nat.le_trans (Nat.add_le_add (Nat.le_trans (Nat.le_add_right _ _) h7) h8) (by decide)
 ·rw[List.length_append,List.length_replicate];exact Nat.le_trans (Nat.add_le_add (Nat.add_le_add (Nat.le_trans (Nat.le_add_right _ _) h7) h8) (Nat.le_trans (Nat.le_add_left _ _) h7)) (by decide)
theorem vN {D:Fn->List V->R V}{J:Ρ}{i:Nat}{o:Option (List Nat)} (h:ak D (.loc i) J=.ok (ov o)):ak D (.cmp .is (.loc i) (.const .none)) J=.ok (.bool o.isNone):=E.cmp h rfl (by cases o<;>rfl)
theorem vO {n:Nat} (t:List Nat) (ht:∀ c∈t,c<128) (hl:t.length<=520):ae defs (n+3) .gF [.str t]=.ok (ov (bA t)):=by
 have Nu:t.length<=1000000:=Nat.le_trans hl (by decide)
 have e0:bQ (ae defs (n+2)) tX [some (.str t),none,none,none,none,none]=.next [some (.str t),some (.list (vl (aU 0 t))),none,none,none,none]:=by
  have hf:((List.range' 0 t.length).map vi).filter (cutAt t)=vl (aU 0 t):=xP t []
  rw[<- hf]
  refine S.assign (E.sel (fE (k:=t.length) (E.prim (E.one rfl) rfl) Nu) (by rw[List.length_map,List.length_range'];exact Nu) fun x hx=>?_)
  refine Exists.elim (List.mem_map.mp hx) fun k zz=>aB zz fun hk av=>?_;clear zz;subst av
  refine⟨E.cmp (x:=.str ((t.drop k).take 2)) (y:=.str [58,58]) (E.slice (l:=vi k) (h:=vi (k+2)) rfl rfl rfl rfl ?_) rfl (bZ ?_),rfl⟩
  ·have:=Js t k (k+2) (Nat.le_add_right _ _)
   rwa [Nat.add_sub_cancel_left] at this
  ·unfold cutAt
   dsimp only
   rw[Int.toNat_natCast]
 have go:∀ {z:SR},aj (ae defs (n+2)) t5 [some (.str t),some (.list (vl (aU 0 t))),none,none,none,none]=z->aj (ae defs (n+2)) il [some (.str t),none,none,none,none,none]=z:=fun h=>S.seq e0 h
 have c1:ak (ae defs (n+2)) (.cmp .gt (.prim .len (.cons (.loc 1) .nil)) (.const (.int 1))) [some (.str t),some (.list (vl (aU 0 t))),none,none,none,none]=.ok (.bool (decide (1<(aU 0 t).length))):=E.cmp (y:=vi 1) (E.s6 rfl) rfl (bZ (fP 1 _))
 have c0:ak (ae defs (n+2)) (.cmp .eq (.prim .len (.cons (.loc 1) .nil)) (.const (.int 0))) [some (.str t),some (.list (vl (aU 0 t))),none,none,none,none]=.ok (.bool (decide ((aU 0 t).length=0))):=E.cmp (y:=vi 0) (E.s6 rfl) rfl (bZ (e7 _ 0))
 unfold bA
 match L7:aU 0 t with
 | a::b::r=>
  rw[L7] at go c1
  exact S.val (p:=il) (go (S.end ((S.aE c1 (decide_eq_true (Nat.succ_lt_succ (Nat.succ_pos _)))).trans rfl)))
 | []=>
  rw[L7] at go c1 c0
  have hs:=AP (n:=n) t true ht hl
  have go2:∀ {v:V},aj (ae defs (n+2)) (.cons (.ite (.or (.cmp .is (.loc 2) (.const .none)) (.cmp .ne (.prim .len (.cons (.loc 2) .nil)) (.const (.int 8)))) (.cons (.ret (.const .none)) .nil) .nil) (.cons (.ret (.loc 2)) .nil)) [some (.str t),some (.list []),some (ov (aZ t true)),none,none,none]=.ret v->(aj (ae defs (n+2)) il [some (.str t),none,none,none,none,none]).value=.ok v:=fun h=>
   S.val (p:=il) (go (S.seq (S.skip c1) (S.end ((S.aE c0 rfl).trans (S.seq (S.assign (E.call (E.two rfl rfl) hs)) h)))))
  cases hq:aZ t true with
  | none=>rw[hq] at go2;exact go2 rfl
  | some g=>
   rw[hq] at go2
   have c8:ak (ae defs (n+2)) (.or (.cmp .is (.loc 2) (.const .none)) (.cmp .ne (.prim .len (.cons (.loc 2) .nil)) (.const (.int 8)))) [some (.str t),some (.list []),some (.list (vl g)),none,none,none]=.ok (.bool (false||!decide (g.length=8))):=C.or (vN (o:=some g) rfl) (E.cmp (op:=.ne) (y:=vi 8) (E.s6 rfl) rfl (bZ (congrArg Bool.not (e7 _ 8))))
   dsimp only
   by_cases h8:g.length=8
   ·rw[if_pos h8];exact go2 (S.seq (S.skip (c8.trans (bZ (by rw[decide_eq_true h8];rfl)))) (S.end (S.ret rfl)))
   ·rw[if_neg h8];exact go2 (S.end ((S.aE c8 (by rw[decide_eq_false h8];rfl)).trans rfl))
 | [a]=>
  rw[L7] at go c1 c0
  have Yz:=AP (n:=n) (t.take a) false (fun c hc=>ht c (List.mem_of_mem_take hc)) (Nat.le_trans (by rw[List.length_take];exact Nat.min_le_right _ _) hl)
  have YF:=AP (n:=n) (t.drop (a+2)) true (fun c hc=>ht c (List.mem_of_mem_drop hc)) (Nat.le_trans (by rw[List.length_drop];exact Nat.sub_le _ _) hl)
  have go2:∀ {v:V},aj (ae defs (n+2)) tZ [some (.str t),some (.list (vl [a])),none,some (ov (aZ (t.take a) false)),some (ov (aZ (t.drop (a+2)) true)),none]=.ret v->(aj (ae defs (n+2)) il [some (.str t),none,none,none,none,none]).value=.ok v:=fun h=>
   S.val (p:=il) (go (S.seq (S.skip c1) (S.seq (S.skip c0) (S.seq (S.assign (E.call (E.two (E.slice (l:=.none) (h:=vi a) rfl rfl rfl rfl (uf t a)) rfl) Yz)) (S.seq (S.assign (E.call (E.two (E.slice (l:=vi (a+2)) (h:=.none) rfl rfl rfl rfl (Gq t (a+2))) rfl) YF)) h)))))
  dsimp only
  cases q1:aZ (t.take a) false with
  | none=>rw[q1] at go2;exact go2 rfl
  | some l=>
   rw[q1] at go2
   cases q2:aZ (t.drop (a+2)) true with
   | none=>rw[q2] at go2;exact go2 rfl
   | some r=>
    rw[q2] at go2
    have c7:ak (ae defs (n+2)) (.or (.cmp .is (.loc 3) (.const .none)) (.or (.cmp .is (.loc 4) (.const .none)) (.cmp .gt (.bin .add (.prim .len (.cons (.loc 3) .nil)) (.prim .len (.cons (.loc 4) .nil))) (.const (.int 7))))) [some (.str t),some (.list (vl [a])),none,some (.list (vl l)),some (.list (vl r)),none]=.ok (.bool (false||(false||decide (7<l.length+r.length)))):=
     C.or (vN (o:=some l) rfl) (C.or (vN (o:=some r) rfl) (E.cmp (x:=vi (l.length+r.length)) (y:=vi 7) (E.bin (E.s6 rfl) (E.s6 rfl) rfl) rfl (bZ (fP 7 _))))
    dsimp only
    by_cases h7:l.length+r.length<=7
    ·rw[if_pos h7];exact go2 (S.seq (S.skip (c7.trans (bZ (by rw[decide_eq_false (Nat.not_lt.mpr h7)];rfl)))) (S.end (Gs rfl rfl h7)))
    ·rw[if_neg h7];exact go2 (S.end ((S.aE c7 (by rw[decide_eq_true (Nat.lt_of_not_le h7)];rfl)).trans rfl))
theorem p4 {n:Nat} (b:List Nat) (hb:∀ x∈b,x<256):ae defs (n+1) .fi [.bytes b]=if b.length=4 then .ok (.str (bO b)) else .exc .syntax:=by
 show (aj (ae defs n) CJ [some (.bytes b)]).value=_
 have aq:ak (ae defs n) (.cmp .ne (.prim .len (.cons (.loc 0) .nil)) (.const (.int 4))) [some (.bytes b)]=.ok (.bool !decide (b.length=4)):=E.neN (x:=b.length) (y:=4) rfl rfl
 by_cases h4:b.length=4
 ·rw[if_pos h4]
  refine S.val (S.seq (S.skip (aq.trans (bZ (by rw[decide_eq_true h4];rfl)))) (S.end (S.ret ?_)))
  clear aq
  revert hb
  refine Md h4 fun w x y z hb=>?_
  have num:∀ {e:PE}{v:Nat}{r:CF}{u:List Nat},v<256->ak (ae defs n) e [some (.bytes [w,x,y,z])]=.ok (vi v)->gH (ae defs n) r [some (.bytes [w,x,y,z])]=.ok u->gH (ae defs n) (.cons e .plain r) [some (.bytes [w,x,y,z])]=.ok (bG v++u):=fun hv h hr=>
   qK h (e8 (gL (Nat.lt_trans hv (by decide))) rfl) (Nat.le_trans (qM (Nat.lt_trans hv (by decide))) (by decide)) hr
  have dot:∀ {r:CF}{u:List Nat},gH (ae defs n) r [some (.bytes [w,x,y,z])]=.ok u->gH (ae defs n) (.cons (.const (.str [46])) .plain r) [some (.bytes [w,x,y,z])]=.ok ([46]++u):=fun hr=>qK rfl rfl (by decide) hr
  refine f7 (num (hb w (.head _)) rfl (dot (num (hb x (.tail _ (.head _))) rfl (dot (num (hb y (.tail _ (.tail _ (.head _)))) rfl (dot (num (hb z (.tail _ (.tail _ (.tail _ (.head _))))) rfl rfl))))))) ?_
  show R.ok (V.str _)=R.ok (V.str ((bG w++[46])++((bG x++[46])++((bG y++[46])++bG z))))
  rw[List.append_assoc,List.append_assoc,List.append_assoc,List.append_nil]
 ·rw[if_neg h4]
  exact S.kS (S.fu ((S.aE aq (by rw[decide_eq_false h4];rfl)).trans rfl))
noncomputable def jh:List Nat->Option (List Nat × List Nat)
 | []=>none
 | x::r=>match jh r with
  | some (m,q)=>some (x::m,q)
  | none=>if x=58 then some ([],r) else none
theorem qU:jh (x::r)=(match jh r with
  | some (m,q)=>some (x::m,q)
  | none=>if x=58 then some ([],r) else none):=rfl
set_option tactic.hygienic true in
theorem qV:∀ {t:List Nat},jh t=none->58∉t:=by
 intro z0
 induction z0 with
 | nil=>
  intro _
  simp
 | cons x r ih=>
  intro h
  rw[qU] at h
  split at h
  ·contradiction
  ·rename_i q
   split at h
   ·contradiction
   ·rename_i hx
    intro hm
    rcases List.mem_cons.mp hm with e | e
    ·exact hx e.symm
    ·exact ih q e
set_option tactic.hygienic true in
theorem kY:∀ {t m q:List Nat},jh t=some (m,q)->t=m++58::q/\58∉q:=by
 intro z0
 induction z0 with
 | nil=>
  intro _ _ h
  contradiction
 | cons x r ih=>
  intro m q h
  rw[qU] at h
  split at h
  ·rename_i m' q' e
   cases h
   obtain⟨e1,e2⟩:=ih e
   exact⟨by rw[e1];rfl,e2⟩
  ·rename_i e
   split at h
   ·rename_i hx
    cases h
    exact⟨by rw[hx];rfl,qV e⟩
   ·contradiction
theorem AQ:∀ (t:List Nat) (n:Nat) (best:Int),ia 58 t n best=match jh t with
  | some (m,_)=>((n+m.length:Nat):Int)
  | none=>best:=by
 intro z0
 induction z0 with
 | nil=>
  exact fun n best=>rfl
 | cons x r ih=>
  intro n best
  rw[tF,ih,qU]
  cases h:jh r with
  | some mq=>obtain⟨m,q⟩:=mq;dsimp only;rw[List.length_cons];congr 1;lia
  | none=>
   dsimp only
   by_cases hx:x=58
   ·rw[if_pos hx,if_pos hx];simp
   ·rw[if_neg hx,if_neg hx]
abbrev qW (q:List Nat):Prop:=(ag 46 q).length=4/\∀ p∈ag 46 q,(!p.isEmpty&&p.all aM)=true
noncomputable def Q7 (t:List Nat):Option (List Nat × List Nat):=match jh t with
 | some (m,q)=>if qW q then some (m,q) else none
 | none=>none
noncomputable def XG (o:Option (List Nat × List Nat)):V:=match o with
 | some (m,q)=>.tuple [.bytes m,.bytes q]
 | none=>.none
theorem Q8 {D:Fn->List V->R V}{T B P:Option V} (ps:List (List Nat)) (o:Option V) :
  ((ps.all fun p=>!p.isEmpty&&p.all aM)=true/\∃ o',dg 3 (aj D nu) (ps.map V.bytes) [T,B,P,o]=.next [T,B,P,o'])∨((ps.all fun p=>!p.isEmpty&&p.all aM)=false/\dg 3 (aj D nu) (ps.map V.bytes) [T,B,P,o]=.ret .none):=by
 have hd:∀ p:List Nat,ak D (.not (.aG .isdigit (.loc 3) .nil)) [T,B,P,some (.bytes p)]=.ok (.bool !(!p.isEmpty&&p.all aM)):=fun p=>E.not (x:=.bool (!p.isEmpty&&p.all aM)) (E.aG rfl rfl rfl rfl) rfl
 exact F.scan (C:=fun o=>[T,B,P,o]) (Z:=fun s=>s=.ret .none) (fun O O=>rfl) (fun s k h=>h ▸ rfl) (fun p h=>S.one (S.skip ((hd p).trans (bZ (congrArg (!·) h))))) (fun p h=>S.end ((S.aE (hd p) (congrArg (!·) h)).trans rfl)) ps o
theorem Gu {t:List Nat} (h:10∉t):([10]:List Nat).isSuffixOf t=false:=by
 rw[Bool.eq_false_iff]
 intro q
 rw[List.isSuffixOf_iff_suffix] at q
 refine Exists.elim q fun s e=>?_
 exact h (by rw[<- e];simp)
theorem Wj {n:Nat} (t:List Nat) (hn:10∉t) (hl:t.length<=520):ae defs (n+1) .qe [.bytes t]=.ok (XG (Q7 t)):=by
 show (aj (ae defs n) CK [some (.bytes t),none,none,none]).value=_
 have s0:bQ (ae defs n) tL [some (.bytes t),none,none,none]=.next [some (.bytes t),none,none,none]:=S.skip (E.aG rfl rfl rfl (bZ (Gu hn)))
 have s7:∀ {J:Ρ},ak (ae defs n) (.loc 0) J=.ok (.bytes t)->ak (ae defs n) (.cmp .isIn (.const (.bytes [10])) (.loc 0)) J=.ok (.bool false):=fun h=>E.cmp rfl h (bZ (Bool.eq_false_iff.mpr fun q=>hn (List.contains_iff_mem.mp q)))
 have j3:∀ s:List Nat,s.length<=t.length->s.length<=lim:=fun s h=>Nat.le_trans h (Nat.le_trans hl (by decide))
 have hr:=AQ t 0 (-1)
 unfold Q7
 cases hL:jh t with
 | none=>
  rw[hL] at hr
  exact S.val (S.seq s0 (S.seq (S.assign (v:=.int (-1)) (E.aG rfl rfl rfl (congrArg (fun z=>R.ok (V.int z)) hr))) (S.seq (S.assign (E.aG (E.slice rfl (E.bin rfl rfl rfl) rfl rfl (jO t 0)) rfl rfl (e8 (j3 t (Nat.le_refl _)) rfl))) (S.end ((S.aE (E.Q4 (x:=.bool true) rfl rfl) rfl).trans rfl)))))
 | some mq=>
  obtain⟨m,q⟩:=mq
  rw[hL] at hr
  refine aB (kY hL) fun e1 e2=>?_
  have hr:ia 58 t 0 (-1)=(m.length:Int):=hr.trans (congrArg (fun k:Nat=>(k:Int)) (Nat.zero_add _))
  have hd:t.drop (m.length+1)=q:=by rw[e1,<- List.drop_drop,List.drop_left,List.drop_one,List.tail_cons]
  have ht:t.take m.length=m:=by rw[e1,List.take_left]
  have YG:q.length<=t.length:=by rw[e1,List.length_append,List.length_cons];exact Nat.le_trans (Nat.le_succ _) (Nat.le_add_left _ _)
  have Tu:aO (.bytes t) (.int ((m.length+1:Nat):Int)) .none=.ok (.bytes q):=hd ▸ jO t _
  have gg:aO (.bytes t) .none (.int (m.length:Int))=.ok (.bytes m):=(ug t _).trans (by rw[ht])
  have s1:bQ (ae defs n) tM [some (.bytes t),none,none,none]=.next [some (.bytes t),some (vi m.length),none,none]:=S.assign (E.aG rfl rfl rfl (congrArg (fun z=>R.ok (V.int z)) hr))
  have s2:bQ (ae defs n) tN [some (.bytes t),some (vi m.length),none,none]=.next [some (.bytes t),some (vi m.length),some (.list ((ag 46 q).map V.bytes)),none]:=S.assign (E.aG (E.slice rfl (E.bin rfl rfl rfl) rfl rfl Tu) rfl rfl (e8 (j3 q YG) rfl))
  have c3:ak (ae defs n) (.or (.cmp .lt (.loc 1) (.const (.int 0))) (.or (.cmp .isIn (.const (.bytes [10])) (.loc 0)) (.cmp .ne (.prim .len (.cons (.loc 2) .nil)) (.const (.int 4))))) [some (.bytes t),some (vi m.length),some (.list ((ag 46 q).map V.bytes)),none]=.ok (.bool !decide ((ag 46 q).length=4)):=
   E.Nq (E.cmp rfl rfl (bZ (decide_eq_false (Int.not_lt.mpr (Int.natCast_nonneg _))))) rfl (E.Nq (s7 rfl) rfl (E.neN (y:=4) (E.Jf rfl) rfl))
  dsimp only
  by_cases h4:(ag 46 q).length=4
  ·have s3:bQ (ae defs n) tO [some (.bytes t),some (vi m.length),some (.list ((ag 46 q).map V.bytes)),none]=.next [some (.bytes t),some (vi m.length),some (.list ((ag 46 q).map V.bytes)),none]:=S.skip (c3.trans (bZ (by rw[decide_eq_true h4];rfl)))
   have hlen:((ag 46 q).map V.bytes).length<=lim:=by rw[List.length_map,h4];decide
   rcases Q8 (D:=ae defs n) (T:=some (.bytes t)) (B:=some (vi m.length)) (P:=some (.list ((ag 46 q).map V.bytes))) (ag 46 q) none with ⟨ha,o',e⟩ | ⟨ha,e⟩
   ·rw[if_pos ⟨h4,List.all_eq_true.mp ha⟩]
    exact S.val (S.seq s0 (S.seq s1 (S.seq s2 (S.seq s3 (S.seq (S.for rfl hlen e) (S.end (S.ret (E.tup (E.two (E.slice rfl rfl rfl rfl gg) (E.slice rfl (E.bin rfl rfl rfl) rfl rfl Tu))))))))))
   ·rw[if_neg fun z=>Bool.false_ne_true (ha.symm.trans (List.all_eq_true.mpr z.2))]
    exact S.val (S.seq s0 (S.seq s1 (S.seq s2 (S.seq s3 (S.end (S.for rfl hlen e))))))
  ·rw[if_neg fun z=>h4 z.1]
   exact S.val (S.seq s0 (S.seq s1 (S.seq s2 (S.end ((S.aE c3 (by rw[decide_eq_false h4];rfl)).trans rfl)))))
noncomputable def kZ (c:List Nat):List Nat:=List.replicate (4 - c.length) 48++c
noncomputable def cP (l:Nat):List (List Nat)->Bool->List (List Nat)->Option (List (List Nat) × Bool)
 | [],seen,acc=>some (acc,seen)
 | c::r,seen,acc=>if c=[] then (if seen=true then none else cP l r true (acc++List.replicate (9 - l) [48,48,48,48])) else if 4<c.length then none else cP l r seen (acc++[kZ c])
theorem dj {l:Nat}:cP l (c::r) seen acc=(if c=[] then (if seen=true then none else cP l r true (acc++List.replicate (9 - l) [48,48,48,48])) else if 4<c.length then none else cP l r seen (acc++[kZ c])):=rfl
noncomputable abbrev vb (l:List (List Nat)):List V:=l.map V.bytes
theorem Gv {D:Fn->List V->R V}{T I x2 x3 x4 M B x7 x8 cK dv cT dO dJ dw:Option V}:∀ (m s:Nat) (acc:List (List Nat)) (cF:Option V),acc.length+m<=1000->
  ∃ o,dg 11 (aj D tP) ((List.range' s m).map vi) [T,I,x2,x3,x4,M,B,x7,x8,some (.list (vb acc)),dw,cF,cK,dv,cT,dO,dJ] =
   .next [T,I,x2,x3,x4,M,B,x7,x8,some (.list (vb (acc++List.replicate m [48,48,48,48]))),dw,o,cK,dv,cT,dO,dJ]:=by
 intro z0
 induction z0 with
 | zero=>
  exact fun s acc cF O=>⟨cF,by rw[List.replicate_zero,List.append_nil];rfl⟩
 | succ m ih=>
  intro s acc cF h
  obtain⟨o,e⟩:=ih (s+1) (acc++[[48,48,48,48]]) (some (vi s)) (by rw[List.length_append,Nat.add_assoc,Nat.add_comm _ m];exact h)
  rw[List.append_assoc] at e
  exact⟨o,F.cons (S.one (S.Gg (l:=acc) (v:=[48,48,48,48]) rfl rfl (Nat.lt_of_lt_of_le (Nat.lt_add_of_pos_right (Nat.succ_pos m)) (Nat.le_trans h (by decide))))) e⟩
theorem Gw {D:Fn->List V->R V}{p:PE}{J:Ρ}{k:Int} (h:ak D p J=.ok (.int k)) (hk:k.natAbs<=1000000):gG D (.sM (.const (.int 0)) p 1) J=.ok ((List.range' 0 k.toNat).map vi):=by
 refine f7 h ?_
 dsimp only
 rw[R.guard,if_pos]
 ·unfold ig
  rw[List.range_eq_range']
  have:((k - 0).toNat+1 - 1) / 1=k.toNat:=by simp
  rw[this]
  congr 1
  apply List.map_congr_left
  intro x _
  show V.int _=V.int _
  congr 1
  lia
 ·simp only[Bool.and_eq_true,decide_eq_true_eq]
  exact⟨⟨.inl trivial,by decide⟩,hk⟩
theorem NJ {D:Fn->List V->R V}{J:Ρ}{c:List Nat} (oV:ak D (.loc 10) J=.ok (.bytes c)) (YJ:ak D (.loc 12) J=.ok (vi c.length)) (h4:c.length<=4):ak D (.bin .add (.bin .mul (.const (.bytes [48])) (.bin .sub (.const (.int 4)) (.loc 12))) (.loc 10)) J=.ok (.bytes (kZ c)):=by
 have e1:ak D (.bin .sub (.const (.int 4)) (.loc 12)) J=.ok (vi (4 - c.length)):=E.bin (x:=vi 4) rfl YJ (qJ (Int.ofNat_sub h4).symm)
 have hk:4 - c.length<=4:=Nat.sub_le _ _
 have e2:sN .mul (.bytes [48]) (vi (4 - c.length))=.ok (.bytes (List.replicate (4 - c.length) 48)):=by
  generalize 4 - c.length=k at hk
  show R.guard (decide (1=1)&&decide ((-1000:Int)<=(k:Int))&&decide ((k:Int)<=1000)) (R.ok (V.bytes (List.replicate (k:Int).toNat [48]).flatten))=_
  rw[decide_eq_true rfl,decide_eq_true (show (-1000:Int)<=(k:Int) from Int.le_trans (by decide) (Int.natCast_nonneg k)),decide_eq_true (show (k:Int)<=1000 from Int.ofNat_le.mpr (Nat.le_trans hk (by decide))),Int.toNat_natCast]
  have:(List.replicate k ([48]:List Nat)).flatten=List.replicate k 48:=by
   clear hk
   induction k with
   | zero=>rfl
   | succ k ih=>rw[List.replicate_succ,List.flatten_cons,ih,List.replicate_succ];rfl
  rw[this];rfl
 exact E.bin (E.bin rfl e1 e2) oV (e8 (show _<=lim by rw[List.length_replicate];exact Nat.le_trans (Nat.add_le_add hk h4) (by decide)) rfl)
theorem AR {D:Fn->List V->R V}{T I x2 x3 M B x7 cF cK dv cT dO dJ:Option V}{l:Nat} (hl:l<=8) {c:List Nat}{seen:Bool}{acc:List (List Nat)} (ha:acc.length<=990):match cP l [c] seen acc with
  | some (ds,s')=>∃ a b d,aj D gI [T,I,x2,x3,some (vi l),M,B,x7,some (.bool seen),some (.list (vb acc)),some (.bytes c),cF,cK,dv,cT,dO,dJ]=.next [T,I,x2,x3,some (vi l),M,B,x7,some (.bool s'),some (.list (vb ds)),a,b,d,dv,cT,dO,dJ]
  | none=>∃ J,aj D gI [T,I,x2,x3,some (vi l),M,B,x7,some (.bool seen),some (.list (vb acc)),some (.bytes c),cF,cK,dv,cT,dO,dJ]=.exc .syntax J:=by
 rw[dj]
 by_cases h0:c=[]
 ·subst h0
  rw[if_pos rfl]
  cases seen with
  | true=>exact⟨_,rfl⟩
  | false=>
   rw[if_neg Bool.false_ne_true]
   obtain⟨o,ez⟩:=Gv (D:=D) (T:=T) (I:=I) (x2:=x2) (x3:=x3) (x4:=some (vi l)) (M:=M) (B:=B) (x7:=x7) (x8:=some (.bool true)) (cK:=cK) (dv:=dv) (cT:=cT) (dO:=dO) (dJ:=dJ) (dw:=some (.bytes [])) (9 - l) 0 acc cF (Nat.le_trans (Nat.add_le_add ha (Nat.sub_le _ _)) (by decide))
   have h9:(8:Int) - (l:Int)+1=((9 - l:Nat):Int):=by lia
   refine⟨_,o,_,S.last.trans ((S.aE rfl rfl).trans (S.seq (S.skip rfl) (S.seq (S.assign rfl) (S.one (S.for (fE (k:=9 - l) (E.bin (x:=.int ((8:Int) - (l:Int))) (y:=.int 1) rfl rfl (qJ h9)) (Nat.le_trans (Nat.sub_le _ _) (by decide))) (by rw[List.length_map,List.length_range'];exact Nat.le_trans (Nat.sub_le _ _) (by decide)) ez)))))⟩
 ·rw[if_neg h0]
  have hc:∀ {cF:Option V},ak D (.cmp .eq (.loc 10) (.const (.bytes []))) [T,I,x2,x3,some (vi l),M,B,x7,some (.bool seen),some (.list (vb acc)),some (.bytes c),cF,cK,dv,cT,dO,dJ]=.ok (.bool (decide (c=[]))):=E.cmp (x:=.bytes c) (y:=.bytes []) rfl rfl (by rw[vG];rfl)
  have e1:bQ D (.assign 12 (.prim .len (.cons (.loc 10) .nil))) [T,I,x2,x3,some (vi l),M,B,x7,some (.bool seen),some (.list (vb acc)),some (.bytes c),cF,cK,dv,cT,dO,dJ]=.next [T,I,x2,x3,some (vi l),M,B,x7,some (.bool seen),some (.list (vb acc)),some (.bytes c),cF,some (vi c.length),dv,cT,dO,dJ]:=S.assign (E.prim (E.one rfl) rfl)
  have c4:ak D (.cmp .gt (.loc 12) (.const (.int 4))) [T,I,x2,x3,some (vi l),M,B,x7,some (.bool seen),some (.list (vb acc)),some (.bytes c),cF,some (vi c.length),dv,cT,dO,dJ]=.ok (.bool (decide (4<c.length))):=E.cmp (x:=vi c.length) (y:=vi 4) rfl rfl (bZ (fP 4 _))
  by_cases h4:4<c.length
  ·rw[if_pos h4]
   exact⟨_,S.last.trans ((S.cO hc (decide_eq_false h0)).trans (S.seq e1 (S.fu ((S.aE c4 (decide_eq_true h4)).trans rfl))))⟩
  ·rw[if_neg h4]
   have hle:=Nat.le_of_not_lt h4
   have e2:bQ D (.ite (.cmp .ne (.loc 12) (.const (.int 4))) (.cons (.assign 10 (.bin .add (.bin .mul (.const (.bytes [48])) (.bin .sub (.const (.int 4)) (.loc 12))) (.loc 10))) .nil) .nil) [T,I,x2,x3,some (vi l),M,B,x7,some (.bool seen),some (.list (vb acc)),some (.bytes c),cF,some (vi c.length),dv,cT,dO,dJ] =
     .next [T,I,x2,x3,some (vi l),M,B,x7,some (.bool seen),some (.list (vb acc)),some (.bytes (kZ c)),cF,some (vi c.length),dv,cT,dO,dJ]:=by
    have XH:ak D (.cmp .ne (.loc 12) (.const (.int 4))) [T,I,x2,x3,some (vi l),M,B,x7,some (.bool seen),some (.list (vb acc)),some (.bytes c),cF,some (vi c.length),dv,cT,dO,dJ]=.ok (.bool !decide (c.length=4)):=E.cmp (x:=vi c.length) (y:=vi 4) rfl rfl (bZ (congrArg Bool.not (e7 _ 4)))
    by_cases Wk:c.length=4
    ·rw[S.skip (XH.trans (bZ (by rw[decide_eq_true Wk];rfl))),show kZ c=c by unfold kZ;rw[Wk];rfl]
    ·exact (S.aE XH (by rw[decide_eq_false Wk];rfl)).trans (S.one (S.assign (NJ rfl rfl hle)))
   exact⟨_,_,_,S.last.trans ((S.cO hc (decide_eq_false h0)).trans (S.seq e1 (S.seq (S.skip (c4.trans (bZ (decide_eq_false h4)))) (S.seq e2 (S.one (S.Gg (l:=acc) (v:=kZ c) rfl rfl (Nat.lt_of_le_of_lt ha (by decide))))))))⟩
theorem xQ (l:Nat) (c:List Nat) (r:List (List Nat)) (seen:Bool) (acc:List (List Nat)):cP l (c::r) seen acc=(cP l [c] seen acc).bind fun x=>cP l r x.2 x.1:=by
 rw[dj,dj]
 split
 ·split<;>rfl
 ·split<;>rfl
theorem AU {l:Nat}{c:List Nat}{seen s':Bool}{acc ds:List (List Nat)} (h:cP l [c] seen acc=some (ds,s')):ds.length<=acc.length+9:=by
 rw[dj] at h
 split at h
 ·split at h
  ·contradiction
  ·cases h;rw[List.length_append,List.length_replicate];exact Nat.add_le_add_left (Nat.sub_le _ _) _
 ·split at h
  ·contradiction
  ·cases h;rw[List.length_append];exact Nat.add_le_add_left (show (1:Nat)<=9 by decide) _
theorem Gx {D:Fn->List V->R V}{T I x2 x3 M B x7 dv cT dO dJ:Option V}{l:Nat} (hl:l<=8):∀ (cs:List (List Nat)) (seen:Bool) (acc:List (List Nat)) (dw cF cK:Option V),acc.length+10*cs.length<=1000->
  match cP l cs seen acc with
  | some (ds,s')=>∃ a b c,dg 10 (aj D gI) (vb cs) [T,I,x2,x3,some (vi l),M,B,x7,some (.bool seen),some (.list (vb acc)),dw,cF,cK,dv,cT,dO,dJ] =
    .next [T,I,x2,x3,some (vi l),M,B,x7,some (.bool s'),some (.list (vb ds)),a,b,c,dv,cT,dO,dJ]
  | none=>∃ J,dg 10 (aj D gI) (vb cs) [T,I,x2,x3,some (vi l),M,B,x7,some (.bool seen),some (.list (vb acc)),dw,cF,cK,dv,cT,dO,dJ]=.exc .syntax J:=by
 intro z0
 induction z0 with
 | nil=>
  exact fun seen acc dw cF cK O=>⟨_,_,_,rfl⟩
 | cons c r ih=>
  intro seen acc dw cF cK h
  rw[List.length_cons] at h
  have ht:=AR (D:=D) (T:=T) (I:=I) (x2:=x2) (x3:=x3) (M:=M) (B:=B) (x7:=x7) (cF:=cF) (cK:=cK) (dv:=dv) (cT:=cT) (dO:=dO) (dJ:=dJ) hl (c:=c) (seen:=seen) (acc:=acc) (by lia)
  rw[xQ]
  cases q:cP l [c] seen acc with
  | none=>
   rw[q] at ht
   exact ht.imp fun J e=>F.PQ e
  | some p=>
   obtain⟨ds,s'⟩:=p
   rw[q] at ht
   refine eA ht fun a b d e=>?_
   have hds:=AU q
   have ih:=ih s' ds a b d (by lia)
   rw[Option.bind_some]
   cases q2:cP l r s' ds with
   | none=>rw[q2] at ih;exact ih.imp fun J e'=>F.cons e e'
   | some p2=>rw[q2] at ih;exact ih.imp fun x h=>h.imp fun y h=>h.imp fun z e'=>F.cons e e'
theorem NK {c:Nat} (h:c<128):bq .find [iL,.bytes [kO c]]=.ok (.int (match cj c with | some d=>(d:Int) | none=>-1)):=by
 have:∀ c:Fin 128,findAt [kO c.1] [48,49,50,51,52,53,54,55,56,57,97,98,99,100,101,102] 0=(match cj c.1 with | some d=>(d:Int) | none=>-1):=by decide +kernel
 have:=this ⟨c,h⟩
 show R.ok (V.int (findAt [kO c] [48,49,50,51,52,53,54,55,56,57,97,98,99,100,101,102] 0))=_
 rw[this]
noncomputable def dh:List Nat->Option (List Nat)
 | a::b::r=>match cj a,cj b with
  | some h,some l=>(dh r).map fun g=>(h*16+l)::g
  | _,_=>none
 | _=>some []
theorem xR:dh []=some []:=rfl
theorem jP:dh (a::b::r)=(match cj a,cj b with
  | some h,some l=>(dh r).map fun g=>(h*16+l)::g
  | _,_=>none):=rfl
theorem Jv {D:Fn->List V->R V}{J:Ρ}{e:PE}{c:Nat} (hc:c<128) (h:ak D e J=.ok (.bytes [c])):ak D (.aG .find (.glob iL) (.cons (.aG .lower e .nil) .nil)) J=.ok (.int (match cj c with | some d=>(d:Int) | none=>-1)):=
 E.aG rfl rfl (E.one (E.aG h rfl rfl rfl)) (NK hc)
theorem Jw {D:Fn->List V->R V}{T I x3 x4 M B x7 x8 x9 dw cF cK dO dJ:Option V}{bt acc:List Nat}{k a b:Nat} (ha:a<128) (hb:b<128) (h2:(bt.drop k).take 2=[a,b]) (hl:acc.length<1000000):match dh [a,b] with
  | some g=>∃ y z,aj D gJ [T,I,some (.bytes bt),x3,x4,M,B,x7,x8,x9,dw,cF,cK,some (.b9 acc),some (vi k),dO,dJ]=.next [T,I,some (.bytes bt),x3,x4,M,B,x7,x8,x9,dw,cF,cK,some (.b9 (acc++g)),some (vi k),y,z]
  | none=>∃ J,aj D gJ [T,I,some (.bytes bt),x3,x4,M,B,x7,x8,x9,dw,cF,cK,some (.b9 acc),some (vi k),dO,dJ]=.exc .syntax J:=by
 have t1:(bt.drop k).take 1=[a]:=by
  have:=congrArg (List.take 1) h2
  rwa [List.take_take] at this
 have t2:(bt.drop (k+1)).take 1=[b]:=by
  have:=congrArg (List.drop 1) h2
  rwa [List.drop_take,List.drop_drop] at this
 have s1:aO (.bytes bt) (vi k) (vi (k+1))=.ok (.bytes [a]):=by rw[md bt k (k+1) (Nat.le_succ k),Nat.add_sub_cancel_left,t1]
 have s2:aO (.bytes bt) (vi (k+1)) (vi (k+2))=.ok (.bytes [b]):=by rw[md bt (k+1) (k+2) (Nat.le_succ (k+1)),Nat.add_sub_add_left,t2]
 have e1:∀ {z:Int},(match cj a with | some d=>(d:Int) | none=>-1)=z->bQ D (.assign 15 (.aG .find (.glob iL) (.cons (.aG .lower (.slice (.loc 2) (.loc 14) (.bin .add (.loc 14) (.const (.int 1)))) .nil) .nil))) [T,I,some (.bytes bt),x3,x4,M,B,x7,x8,x9,dw,cF,cK,some (.b9 acc),some (vi k),dO,dJ] =
   .next [T,I,some (.bytes bt),x3,x4,M,B,x7,x8,x9,dw,cF,cK,some (.b9 acc),some (vi k),some (.int z),dJ]:=fun h=>h ▸ S.assign (Jv ha (E.slice (l:=vi k) (h:=vi (k+1)) rfl rfl rfl rfl s1))
 have e2:∀ {z y:Int},(match cj b with | some d=>(d:Int) | none=>-1)=z->bQ D (.assign 16 (.aG .find (.glob iL) (.cons (.aG .lower (.slice (.loc 2) (.bin .add (.loc 14) (.const (.int 1))) (.bin .add (.loc 14) (.const (.int 2)))) .nil) .nil))) [T,I,some (.bytes bt),x3,x4,M,B,x7,x8,x9,dw,cF,cK,some (.b9 acc),some (vi k),some (.int y),dJ] =
   .next [T,I,some (.bytes bt),x3,x4,M,B,x7,x8,x9,dw,cF,cK,some (.b9 acc),some (vi k),some (.int y),some (.int z)]:=fun h=>h ▸ S.assign (Jv hb (E.slice (l:=vi (k+1)) (h:=vi (k+2)) rfl rfl rfl rfl s2))
 have cc:∀ y z:Int,ak D (.or (.cmp .lt (.loc 15) (.const (.int 0))) (.cmp .lt (.loc 16) (.const (.int 0)))) [T,I,some (.bytes bt),x3,x4,M,B,x7,x8,x9,dw,cF,cK,some (.b9 acc),some (vi k),some (.int y),some (.int z)]=.ok (.bool (decide (y<0)||decide (z<0))):=fun y z=>C.or (E.cmp (x:=.int y) (y:=.int 0) rfl rfl rfl) (E.cmp (x:=.int z) (y:=.int 0) rfl rfl rfl)
 rw[jP]
 cases h1:cj a with
 | none=>
  rw[h1] at e1
  exact⟨_,S.seq (e1 rfl) (S.seq (e2 rfl) (S.fu ((S.aE (cc _ _) rfl).trans rfl)))⟩
 | some h=>
  rw[h1] at e1
  have n1:decide ((h:Int)<0)=false:=decide_eq_false (Int.not_lt.mpr (Int.natCast_nonneg _))
  cases h2:cj b with
  | none=>
   rw[h2] at e2
   exact⟨_,S.seq (e1 rfl) (S.seq (e2 rfl) (S.fu ((S.aE (cc _ _) (by rw[n1];rfl)).trans rfl)))⟩
  | some l=>
   rw[h2] at e2
   have hh:=jN h1
   have Nu:=jN h2
   refine⟨_,_,S.seq (e1 rfl) (S.seq (e2 rfl) (S.seq (S.skip ((cc h l).trans (bZ (by rw[n1,decide_eq_false (Int.not_lt.mpr (Int.natCast_nonneg l))];rfl)))) (S.one (S.To (k:=h*16+l) rfl (E.bin (x:=vi (h*16)) (y:=vi l) (E.bin (x:=vi h) (y:=vi 16) rfl rfl (NF (Nat.lt_trans hh (by decide)))) rfl rfl) (by lia) hl))))⟩
theorem Jx (a b:Nat) (r:List Nat):dh (a::b::r)=(dh [a,b]).bind fun g=>(dh r).map fun h=>g++h:=by
 rw[jP,jP]
 cases cj a with
 | none=>rfl
 | some x=>cases cj b with
  | none=>rfl
  | some y=>show (dh r).map _=(dh r).map _;rfl
theorem NM {D:Fn->List V->R V}{T I x3 x4 M B x7 x8 x9 dw cF cK:Option V}{bt:List Nat}:∀ (m:Nat) (s pre acc:List Nat) (cT dO dJ:Option V),s.length=2*m->bt=pre++s->(∀ c∈s,c<128)->acc.length+m<=1000->
  match dh s with
  | some g=>∃ a b c,dg 14 (aj D gJ) ((List.range' 0 m).map fun k=>vi (pre.length+2*k)) [T,I,some (.bytes bt),x3,x4,M,B,x7,x8,x9,dw,cF,cK,some (.b9 acc),cT,dO,dJ] =
    .next [T,I,some (.bytes bt),x3,x4,M,B,x7,x8,x9,dw,cF,cK,some (.b9 (acc++g)),a,b,c]
  | none=>∃ J,dg 14 (aj D gJ) ((List.range' 0 m).map fun k=>vi (pre.length+2*k)) [T,I,some (.bytes bt),x3,x4,M,B,x7,x8,x9,dw,cF,cK,some (.b9 acc),cT,dO,dJ]=.exc .syntax J:=by
 intro z0
 induction z0 with
 | zero=>
  intro s pre acc cT dO dJ hs _ _ _
  obtain rfl:=List.length_eq_zero_iff.mp hs
  exact⟨_,_,_,by rw[List.append_nil];rfl⟩
 | succ m ih=>
  intro s pre acc cT dO dJ hs VL hc ha
  match s,hs,VL,hc with
  | a::b::r,hs,VL,hc=>
   have hr:r.length=2*m:=by rw[List.length_cons,List.length_cons] at hs;lia
   have ht:=Jw (D:=D) (T:=T) (I:=I) (x3:=x3) (x4:=x4) (M:=M) (B:=B) (x7:=x7) (x8:=x8) (x9:=x9) (dw:=dw) (cF:=cF) (cK:=cK) (dO:=dO) (dJ:=dJ) (bt:=bt) (acc:=acc) (k:=pre.length) (hc a (.head _)) (hc b (.tail _ (.head _))) (by rw[VL,List.drop_left];rfl) (by lia)
   have YK:(List.range' (0+1) m).map (fun k=>vi (pre.length+2*k))=(List.range' 0 m).map fun k=>vi ((pre++[a,b]).length+2*k):=by
    rw[List.range'_eq_map_range,List.range'_eq_map_range,List.map_map,List.map_map]
    refine List.map_congr_left fun k O=>congrArg (fun n:Nat=>vi n) ?_
    rw[List.length_append]
    show pre.length+2*(0+1+k)=pre.length+2+2*(0+k)
    lia
   rw[List.range'_succ,List.map_cons,YK,Jx]
   cases q:dh [a,b] with
   | none=>rw[q] at ht;exact ht.imp fun J e=>F.PQ e
   | some g=>
    rw[q] at ht
    refine bT ht fun y z e=>?_
    have hg:g.length=1:=by
     rw[jP] at q
     cases qa:cj a with
     | none=>rw[qa] at q;contradiction
     | some x=>cases qb:cj b with
      | none=>rw[qa,qb] at q;contradiction
      | some y=>rw[qa,qb] at q;injection q with q;subst q;rfl
    have ih:=ih r (pre++[a,b]) (acc++g) (some (vi pre.length)) y z hr (by rw[VL,List.append_assoc];rfl) (fun c Nz=>hc c (.tail _ (.tail _ Nz))) (by rw[List.length_append,hg];lia)
    rw[Option.bind_some]
    cases q2:dh r with
    | none=>rw[q2] at ih;exact ih.imp fun J e'=>F.cons e e'
    | some g'=>
     rw[q2] at ih
     refine eA ih fun u v w e'=>?_
     exact⟨u,v,w,by rw[F.cons e e',List.append_assoc]⟩
noncomputable def dq (bt:List Nat):List Nat:=if ([58,58]:List Nat).isPrefixOf bt=true then bt.drop 1 else if ([58,58]:List Nat).isSuffixOf bt=true then bt.take (bt.length - 1) else bt
noncomputable def gw (ch:List (List Nat)):Option (List Nat):=if 8<ch.length then none else match cP ch.length ch false [] with
 | none=>none
 | some (cs,seen)=>if ch.length<8/\seen=false then none else dh cs.flatten
noncomputable def uh (bt:List Nat):Option (List Nat):=gw (ag 58 (dq bt))
noncomputable def ji (o:Option (List Nat)):R V:=match o with
 | some g=>.ok (.bytes g)
 | none=>.exc .syntax
theorem nH:∀ l:List (List Nat),a9 [] l=l.flatten
 | []=>rfl
 | [x]=>by simp[de,cg,aX]
 | x::y::r=>by rw[aX,nH (y::r)]<;>simp
set_option tactic.hygienic true in
theorem AV {l:Nat}:∀ (r:List (List Nat)) (seen:Bool) (acc cs:List (List Nat)) (s':Bool),cP l r seen acc=some (cs,s')->(∀ c∈acc,c.length=4/\∀ x∈c,x<128)->(∀ c∈r,∀ x∈c,x<128)->
  (∀ c∈cs,c.length=4/\∀ x∈c,x<128)/\(seen=s'->cs.length=acc.length+r.length)/\(seen=false->s'=true->cs.length+1=acc.length+r.length+(9 - l))/\(seen=true->s'=true):=by
 intro z0
 induction z0 with
 | nil=>
  intro seen acc cs s' h ha _
  cases h
  exact⟨ha,fun O=>rfl,fun e1 e2=>(by rw[e1] at e2;contradiction),id⟩
 | cons c r ih=>
  intro seen acc cs s' h ha hr
  rw[dj] at h
  have SV:∀ c∈r,∀ x∈c,x<128:=fun c hc=>hr c (.tail _ hc)
  split at h
  ·split at h
   ·contradiction
   ·rename_i hs
    have nJ:seen=false:=by simpa using hs
    obtain⟨h1,h2,h3,h4⟩:=ih true _ cs s' h (fun c hc=>by
     rcases List.mem_append.mp hc with hc | hc
     ·exact ha c hc
     ·rw[List.eq_of_mem_replicate hc];decide) SV
    have h5:=h4 rfl
    have h6:=h2 h5.symm
    rw[List.length_append,List.length_replicate] at h6
    refine⟨h1,fun e=>(by rw[nJ,h5] at e;contradiction),fun O O=>(by rw[List.length_cons];lia),fun e=>(by rw[nJ] at e;contradiction)⟩
  ·split at h
   ·contradiction
   ·rename_i h0 h4
    obtain⟨h1,h2,h3,h5⟩:=ih seen _ cs s' h (fun d hd=>by
     rcases List.mem_append.mp hd with hd | hd
     ·exact ha d hd
     ·rw[List.mem_singleton.mp hd]
      unfold kZ
      refine⟨by rw[List.length_append,List.length_replicate];lia,fun x hx=>?_⟩
      rcases List.mem_append.mp hx with hx | hx
      ·rw[List.eq_of_mem_replicate hx];decide
      ·exact hr c (.head _) x hx) SV
    refine⟨h1,fun e=>?_,fun e1 e2=>?_,h5⟩
    ·have:=h2 e;rw[List.length_append,List.length_singleton] at this;rw[List.length_cons];lia
    ·have:=h3 e1 e2;rw[List.length_append,List.length_singleton] at this;rw[List.length_cons];lia
theorem Jy:∀ {cs:List (List Nat)},(∀ c∈cs,c.length=4)->cs.flatten.length=4*cs.length/\bf cs=4*cs.length:=by
 intro z0
 induction z0 with
 | nil=>
  exact fun O=>⟨rfl,rfl⟩
 | cons c r ih=>
  intro h
  refine aB (ih fun c hc=>h c (.tail _ hc)) fun h1 h2=>?_
  have:=h c (.head _)
  rw[List.flatten_cons,List.length_append,List.length_cons,bj]
  lia
theorem Q9 (m:Nat):ig 0 ((2*m:Nat):Int) 2=(List.range' 0 m).map fun k=>vi (([]:List Nat).length+2*k):=by
 unfold ig
 rw[List.range_eq_range']
 have:((((2*m:Nat):Int) - 0).toNat+2 - 1) / 2=m:=by lia
 rw[this]
 apply List.map_congr_left
 intro x _
 show V.int _=V.int _
 congr 1
theorem Gy {D:Fn->List V->R V}{p:PE}{J:Ρ}{m:Nat} (h:ak D p J=.ok (.int ((2*m:Nat):Int))) (hk:m<=1000):gG D (.sM (.const (.int 0)) p 2) J=.ok ((List.range' 0 m).map fun k=>vi (([]:List Nat).length+2*k)):=by
 refine f7 h ?_
 dsimp only
 rw[Q9,R.guard,if_pos]
 simp only[Bool.and_eq_true,decide_eq_true_eq]
 exact⟨⟨.inr trivial,by decide⟩,by rw[Int.natAbs_natCast];lia⟩
theorem Jz (s:List Nat):aO (.bytes s) (.int 1) .none=.ok (.bytes (s.drop 1)):=jO s 1
theorem NP (s:List Nat):aO (.bytes s) .none (.int (-1))=.ok (.bytes (s.take (s.length - 1))):=by
 unfold aO;dsimp only[bound]
 rw[if_pos (by decide)]
 have:(max 0 (-1+(s.length:Int))).toNat=s.length - 1:=by lia
 rw[this]
 unfold cut
 rw[List.drop_zero,Nat.sub_zero]
section
variable {n:Nat}{T I x3 x4 M B x7 x8 x9 dw cF cK dv cT dO dJ:Option V}
theorem Gz {D:Fn->List V->R V} (bt:List Nat):bQ D tQ [T,I,some (.bytes bt),x3,x4,M,B,x7,x8,x9,dw,cF,cK,dv,cT,dO,dJ]=.next [T,I,some (.bytes (dq bt)),x3,x4,M,B,x7,x8,x9,dw,cF,cK,dv,cT,dO,dJ]:=by
 unfold dq
 have cp:ak D (.aG .startswith (.loc 2) (.cons (.const (.bytes [58,58])) .nil)) [T,I,some (.bytes bt),x3,x4,M,B,x7,x8,x9,dw,cF,cK,dv,cT,dO,dJ]=.ok (.bool (([58,58]:List Nat).isPrefixOf bt)):=rfl
 have cs:ak D (.aG .endswith (.loc 2) (.cons (.const (.bytes [58,58])) .nil)) [T,I,some (.bytes bt),x3,x4,M,B,x7,x8,x9,dw,cF,cK,dv,cT,dO,dJ]=.ok (.bool (([58,58]:List Nat).isSuffixOf bt)):=rfl
 cases q1:([58,58]:List Nat).isPrefixOf bt with
 | true=>exact (S.aE cp q1).trans (S.one (S.assign (E.slice (x:=.bytes bt) (l:=.int 1) (h:=.none) rfl rfl rfl rfl (Jz bt))))
 | false=>
  refine (S.cO cp q1).trans (S.last.trans ?_)
  cases q2:([58,58]:List Nat).isSuffixOf bt with
  | true=>exact (S.aE cs q2).trans (S.one (S.assign (E.slice (x:=.bytes bt) (l:=.none) (h:=.int (-1)) rfl rfl rfl rfl (NP bt))))
  | false=>exact S.skip (cs.trans (bZ q2))
theorem JA {bt:List Nat}{c:Nat} (h:c∈dq bt):c∈bt:=by
 unfold dq at h
 split at h
 ·exact List.mem_of_mem_drop h
 ·split at h
  ·exact List.mem_of_mem_take h
  ·exact h
theorem NQ (bt:List Nat):(dq bt).length<=bt.length:=by
 unfold dq
 split
 ·rw[List.length_drop];exact Nat.sub_le _ _
 ·split
  ·rw[List.length_take];exact Nat.min_le_right _ _
  ·exact Nat.le_refl _
theorem AW {cs:List (List Nat)} (h4:∀ c∈cs,c.length=4/\∀ x∈c,x<128) (h8:cs.length=8):(aj (ae defs n) kP [T,I,x3,x4,M,B,x7,x8,dJ,some (.list (vb cs)),dw,cF,cK,dv,cT,dO,x9]).value=ji (dh cs.flatten):=by
 refine aB (Jy fun c hc=>(h4 c hc).1) fun f1 f2=>?_
 rw[h8] at f1 f2
 have hj:bq .join [.bytes [],.list (vb cs)]=.ok (.bytes cs.flatten):=(xJ [] cs).trans (by
  rw[decide_eq_true (show 2<=cs.length by rw[h8];decide),decide_eq_true (show bf cs+([]:List Nat).length*cs.length<=lim by rw[f2,h8];decide),nH];rfl)
 have hx:=NM (D:=ae defs n) (T:=T) (I:=I) (x3:=x4) (x4:=M) (M:=B) (B:=x7) (x7:=x8) (x8:=dJ) (x9:=some (.list (vb cs))) (dw:=dw) (cF:=cF) (cK:=cK) (bt:=cs.flatten) 16 cs.flatten [] [] cT dO x9 f1 rfl (fun c hc=>by
  refine Exists.elim (List.mem_flatten.mp hc) fun d zz=>aB zz fun hd Ra=>?_
  exact (h4 d hd).2 c Ra) (by decide)
 have go:∀ {z:SR},aj (ae defs n) qw [T,I,some (.bytes cs.flatten),x4,M,B,x7,x8,dJ,some (.list (vb cs)),dw,cF,cK,some (.b9 []),cT,dO,x9]=z->aj (ae defs n) kP [T,I,x3,x4,M,B,x7,x8,dJ,some (.list (vb cs)),dw,cF,cK,dv,cT,dO,x9]=z:=fun h=>
  S.seq (S.assign (E.aG (x:=.bytes []) rfl rfl (E.one rfl) hj)) (S.seq rfl h)
 have hf:bQ (ae defs n) qv [T,I,some (.bytes cs.flatten),x4,M,B,x7,x8,dJ,some (.list (vb cs)),dw,cF,cK,some (.b9 []),cT,dO,x9]=_:=S.for (Gy (m:=16) (E.prim (E.one rfl) (qJ (by rw[f1]))) (by decide)) (by decide) rfl
 cases hq:dh cs.flatten with
 | none=>rw[hq] at hx;refine Exists.elim hx fun J e=>?_;exact S.kS (go (S.fu (hf.trans e)))
 | some g=>rw[hq] at hx;refine eA hx fun a b c e=>?_;exact S.val (go (S.seq (hf.trans e) (S.end (S.ret rfl))))
theorem ui (bt:List Nat) (hb:∀ c∈bt,c<128) (hl:bt.length<=600) :
  (aj (ae defs n) ny [T,I,some (.bytes bt),x3,x4,M,B,x7,x8,x9,dw,cF,cK,dv,cT,dO,dJ]).value=ji (uh bt):=by
 unfold uh
 have AX:=Nat.le_trans (NQ bt) hl
 have Rb:∀ c∈ag 58 (dq bt),∀ x∈c,x<128:=fun c hc x hx=>hb x (JA (ix _ c x hc hx))
 have aq:=dW (c:=58) (dq bt)
 have go:∀ {z:SR},aj (ae defs n) tR [T,I,some (.bytes (dq bt)),x3,some (vi (ag 58 (dq bt)).length),M,B,some (.list (vb (ag 58 (dq bt)))),x8,x9,dw,cF,cK,dv,cT,dO,dJ]=z->aj (ae defs n) ny [T,I,some (.bytes bt),x3,x4,M,B,x7,x8,x9,dw,cF,cK,dv,cT,dO,dJ]=z:=fun h=>
  S.seq (Gz bt) (S.seq (S.assign (E.aG (x:=.bytes (dq bt)) rfl rfl (E.one rfl) ((ua _ 58).trans (e8 (Nat.le_trans AX (by decide)) rfl)))) (S.seq (S.assign (E.Jf rfl)) h))
 revert go Rb aq
 generalize ag 58 (dq bt)=ch
 generalize dq bt=b
 intro Rb aq go
 unfold gw
 have c8:ak (ae defs n) (.cmp .gt (.loc 4) (.const (.int 8))) [T,I,some (.bytes b),x3,some (vi ch.length),M,B,some (.list (vb ch)),x8,x9,dw,cF,cK,dv,cT,dO,dJ]=.ok (.bool (decide (8<ch.length))):=E.cmp (x:=vi ch.length) (y:=vi 8) rfl rfl (bZ (fP 8 _))
 by_cases h8:8<ch.length
 ·rw[if_pos h8]
  exact S.kS (go (S.fu ((S.aE c8 (decide_eq_true h8)).trans rfl)))
 ·rw[if_neg h8]
  have hle:=Nat.le_of_not_lt h8
  have e:=Gx (D:=ae defs n) (T:=T) (I:=I) (x2:=some (.bytes b)) (x3:=x3) (M:=M) (B:=B) (x7:=some (.list (vb ch))) (dv:=dv) (cT:=cT) (dO:=dO) (dJ:=dJ) (l:=ch.length) hle ch false [] dw cF cK (by rw[List.length_nil,Nat.zero_add];exact Nat.le_trans (Nat.mul_le_mul_left 10 hle) (by decide))
  have hf:bQ (ae defs n) qu [T,I,some (.bytes b),x3,some (vi ch.length),M,B,some (.list (vb ch)),some (.bool false),some (.list (vb [])),dw,cF,cK,dv,cT,dO,dJ]=_:=S.for (xs:=vb ch) rfl (by rw[List.length_map];exact Nat.le_trans hle (by decide)) rfl
  have go2:∀ {z:SR},aj (ae defs n) qx [T,I,some (.bytes b),x3,some (vi ch.length),M,B,some (.list (vb ch)),some (.bool false),some (.list (vb [])),dw,cF,cK,dv,cT,dO,dJ]=z->_=z:=fun h=>go (S.seq (S.skip (c8.trans (bZ (decide_eq_false h8)))) (S.seq (S.assign rfl) (S.seq (S.own (l:=[]) rfl) h)))
  have hinv:=AV (l:=ch.length) ch false []
  cases hq:cP ch.length ch false [] with
  | none=>
   rw[hq] at e
   obtain⟨J,e⟩:=e
   exact S.kS (go2 (S.fu (hf.trans e)))
  | some p=>
   obtain⟨cs,seen⟩:=p
   rw[hq] at e
   obtain⟨NR,NS,Wl,e⟩:=e
   obtain⟨i1,i2,i3,i4⟩:=hinv cs seen hq (fun c hc=>by contradiction) Rb
   dsimp only
   have cb:ak (ae defs n) (.and (.cmp .lt (.loc 4) (.const (.int 8))) (.not (.loc 8))) [T,I,some (.bytes b),x3,some (vi ch.length),M,B,some (.list (vb ch)),some (.bool seen),some (.list (vb cs)),NR,NS,Wl,dv,cT,dO,dJ]=.ok (.bool (decide (ch.length<8)&&!seen)):=C.and (E.cmp (x:=vi ch.length) (y:=vi 8) rfl rfl (bZ (fP _ 8))) (E.not (x:=.bool seen) rfl rfl)
   by_cases vP:ch.length<8/\seen=false
   ·rw[if_pos vP]
    exact S.kS (go2 (S.seq (hf.trans e) (S.fu ((S.aE cb (by rw[decide_eq_true vP.1,vP.2];rfl)).trans rfl))))
   ·rw[if_neg vP]
    have L7:cs.length=8:=by
     have YM:1<=ch.length:=List.length_pos_iff.mpr aq
     cases seen with
     | false=>rw[i2 rfl,List.length_nil,Nat.zero_add];exact Nat.le_antisymm hle (Nat.le_of_not_lt fun q=>vP ⟨q,rfl⟩)
     | true=>have:=i3 rfl rfl;rw[List.length_nil] at this;lia
    have YN:(decide (ch.length<8)&&!seen)=false:=by
     cases seen with
     | true=>exact Bool.and_false _
     | false=>rw[decide_eq_false fun q=>vP ⟨q,rfl⟩];rfl
    have:=AW (n:=n) (T:=T) (I:=I) (x3:=some (.bytes b)) (x4:=x3) (M:=some (vi ch.length)) (B:=M) (x7:=B) (x8:=some (.list (vb ch))) (dJ:=some (.bool seen)) (dw:=NR) (cF:=NS) (cK:=Wl) (dv:=dv) (cT:=cT) (dO:=dO) (x9:=dJ) i1 L7
    rw[go2 (S.seq (hf.trans e) (S.seq (S.skip (cb.trans (bZ YN))) rfl))]
    exact this
end
noncomputable def hex2 (b:Nat):List Nat:=[dC (b / 16),dC (b % 16)]
noncomputable def eR:List Nat->List Nat
 | [a,b,c,d]=>hex2 a++hex2 b++58::(hex2 c++hex2 d)
 | _=>[]
noncomputable def JB (t:List Nat):Option (List Nat):=match Q7 t with
 | none=>uh t
 | some (m,q)=>if aH q=[] then none else uh (m++58::eR (aH q))
noncomputable def qX (t:List Nat):Bool:=([58]:List Nat).isSuffixOf t&&!([58,58]:List Nat).isSuffixOf t
noncomputable def mh (t:List Nat):Bool:=([58]:List Nat).isPrefixOf t&&!([58,58]:List Nat).isPrefixOf t
noncomputable def coreS (t:List Nat):Option (List Nat):=if t=[] then none else if qX t=true then none else if mh t=true then none else JB (if t=[58,58] then [48,58,58] else t)
theorem NT {n:Nat} (h:n<16):dC n<128:=by unfold dC;split<;>lia
theorem eJ (a b c d:Nat):eR [a,b,c,d]=hex2 a++hex2 b++58::(hex2 c++hex2 d):=rfl
theorem jQ {b:Nat} (h:b<256):∀ c∈hex2 b,c<128:=fun c hc=>by
 unfold hex2 at hc
 simp only[List.mem_cons,List.not_mem_nil,or_false] at hc
 rcases hc with rfl | rfl<;>exact NT (by lia)
theorem p5 {b:Nat} (h:b<256):sO .uS (.int (b:Int))=.ok (hex2 b):=by
 unfold sO;dsimp only
 rw[if_pos (by lia),Int.toNat_natCast];rfl
section
variable {n:Nat}{T I x3 x4 x5 x6 x7 x8 x9 dw cF cK dv cT dO dJ:Option V}
theorem E.fs {D:Fn->List V->R V}{J:Ρ}{e:PE}{f:PG}{r:CF}{v:V}{s t:List Nat} (h:ak D e J=.ok v) (hf:sO f v=.ok s) (hl:s.length<=100000) (k:gH D r J=.ok t):gH D (.cons e f r) J=.ok (s++t):=qK h hf hl k
theorem E.qi {D:Fn->List V->R V}{J:Ρ}{es:CF}{s:List Nat} (h:gH D es J=.ok s):ak D (.qi es) J=.ok (.str s):=f7 h rfl
theorem qY {a b c d:Nat} (ha:a<256) (hb:b<256) (hc:c<256) (hd:d<256):∀ x∈58::eR [a,b,c,d],x<128:=by
 unfold eR
 simp only[List.forall_mem_cons,List.forall_mem_append]
 exact⟨by decide,⟨jQ ha,jQ hb⟩,by decide,jQ hc,jQ hd⟩
theorem GA {D:Fn->List V->R V}{J:Ρ}{m q:List Nat}{a b c d:Nat} (h5:ak D (.loc 5) J=.ok (.tuple [.bytes m,.bytes q])) (h6:ak D (.loc 6) J=.ok (.bytes [a,b,c,d])) (hm:m≠[]) (VM:m.length<=1000) (Tv:∀ c∈m,c<128) (ha:a<256) (hb:b<256) (hc:c<256) (hd:d<256) :
  bQ D (.assign 2 (.aG .encode (.qi (.cons (.aG .decode (.idx (.loc 5) (.const (.int 0))) .nil) .plain (.cons (.const (.str [58])) .plain (.cons (.idx (.loc 6) (.const (.int 0))) .uS (.cons (.idx (.loc 6) (.const (.int 1))) .uS (.cons (.const (.str [58])) .plain (.cons (.idx (.loc 6) (.const (.int 2))) .uS (.cons (.idx (.loc 6) (.const (.int 3))) .uS .nil)))))))) .nil)) J =
   .next (J.set 2 (some (.bytes (m++58::eR [a,b,c,d])))):=by
 have e0:ak D (.aG .decode (.idx (.loc 5) (.const (.int 0))) .nil) J=.ok (.str m):=E.aG (x:=.bytes m) (E.idx h5 (y:=.int 0) rfl rfl rfl) rfl rfl (by rw[Ja,fQ Tv];cases m with | nil=>exact absurd rfl hm | cons _ _=>rfl)
 have hh:∀ v:Nat,(hex2 v).length<=100000:=fun v=>(by decide:2<=100000)
 have at_:∀ {i:Int}{v:Nat},ib (.bytes [a,b,c,d]) (.int i)=.ok (vi v)->ak D (.idx (.loc 6) (.const (.int i))) J=.ok (vi v):=fun h=>E.idx h6 (y:=.int _) rfl rfl h
 have e1:=E.fs (f:=.plain) e0 rfl (Nat.le_trans VM (by decide)) (E.fs (f:=.plain) (e:=.const (.str [58])) rfl rfl (by decide) (E.fs (f:=.uS) (at_ (i:=0) (v:=a) rfl) (p5 ha) (hh a) (E.fs (f:=.uS) (at_ (i:=1) (v:=b) rfl) (p5 hb) (hh b) (E.fs (f:=.plain) (e:=.const (.str [58])) rfl rfl (by decide) (E.fs (f:=.uS) (at_ (i:=2) (v:=c) rfl) (p5 hc) (hh c) (E.fs (f:=.uS) (r:=.nil) (at_ (i:=3) (v:=d) rfl) (p5 hd) (hh d) rfl))))))
 have Rc:m++([58]++(hex2 a++(hex2 b++([58]++(hex2 c++(hex2 d++[]))))))=m++58::eR [a,b,c,d]:=by
  rw[List.append_nil]
  show _=m++58::(hex2 a++hex2 b++58::(hex2 c++hex2 d))
  rw[List.append_assoc];rfl
 rw[Rc] at e1
 exact S.assign (E.aG (E.qi e1) rfl rfl ((xI _).trans (by rw[fQ fun x hx=>(List.mem_append.mp hx).elim (Tv x) (qY ha hb hc hd x)];rfl)))
set_option tactic.hygienic true in
theorem xS (t:List Nat) (ht:∀ c∈t,c<128) (hn:10∉t) (hl:t.length<=520) (hs:mh t=false) :
  (aj (ae defs (n+1)) jL [T,I,some (.bytes t),x3,x4,x5,x6,x7,x8,x9,dw,cF,cK,dv,cT,dO,dJ]).value=ji (JB t):=by
 have go:∀ {z:SR},aj (ae defs (n+1)) tS [T,I,some (.bytes t),x3,x4,some (XG (Q7 t)),x6,x7,x8,x9,dw,cF,cK,dv,cT,dO,dJ]=z->aj (ae defs (n+1)) jL [T,I,some (.bytes t),x3,x4,x5,x6,x7,x8,x9,dw,cF,cK,dv,cT,dO,dJ]=z:=fun h=>S.seq (S.assign (E.call (E.one rfl) (Wj (n:=n) t hn hl))) h
 unfold JB
 cases hq:Q7 t with
 | none=>
  rw[hq] at go
  rw[go (S.seq (S.skip rfl) rfl)]
  exact ui t ht (Nat.le_trans hl (by decide))
 | some p=>
  rw[hq] at go
  obtain⟨m,q⟩:=p
  have hL:jh t=some (m,q):=by
   unfold Q7 at hq
   split at hq
   ·rename_i e
    split at hq
    ·cases hq;exact e
    ·contradiction
   ·contradiction
  refine aB (kY hL) fun e1 e2=>?_
  have hm:m≠[]:=fun z=>by
   subst z
   rw[e1] at hs
   unfold mh at hs
   cases q with
   | nil=>contradiction
   | cons a r=>
    have:a≠58:=fun z=>e2 (by rw[z];exact .head _)
    simp[List.isPrefixOf,this.symm] at hs
  have VM:m.length+(1+q.length)=t.length:=by rw[e1,List.length_append,List.length_cons,Nat.add_comm 1]
  have Tz:m.length<=520:=Nat.le_trans (Nat.le_add_right _ _) (Nat.le_trans (Nat.le_of_eq VM) hl)
  have VN:=Jm (n:=n) q (Nat.le_trans (Nat.le_trans (Nat.le_add_left _ 1) (Nat.le_add_left _ m.length)) (Nat.le_trans (Nat.le_of_eq VM) hl))
  have Tv:∀ c∈m,c<128:=fun c hc=>ht c (by rw[e1];exact List.mem_append_left _ hc)
  dsimp only
  by_cases hz:aH q=[]
  ·rw[if_pos hz]
   rw[hz] at VN
   exact S.kS (go (S.fu ((S.aE rfl rfl).trans (S.fu (S.C0 (E.call (vs:=[.bytes q]) rfl VN))))))
  ·rw[if_neg hz]
   refine kK (dE hz) fun a b c d zz=>nk zz fun TB ha hb hc hd=>?_
   rw[TB] at VN ⊢
   rw[go (S.seq ((S.aE rfl rfl).trans (S.seq (S.assign (E.call (vs:=[.bytes q]) rfl VN)) (S.one (GA (m:=m) (q:=q) rfl rfl hm (Nat.le_trans Tz (by decide)) Tv ha hb hc hd)))) rfl)]
   exact ui _ (fun x hx=>(List.mem_append.mp hx).elim (Tv x) (qY ha hb hc hd x)) (by rw[List.length_append];exact Nat.le_trans (Nat.add_le_add Tz (show (58::eR [a,b,c,d]).length<=10 from (by show (10:Nat)<=10;decide))) (by decide))
theorem jR (t:List Nat) (ht:∀ c∈t,c<128) (hn:10∉t) (hl:t.length<=520) :
  (aj (ae defs (n+1)) jM [T,I,some (.bytes t),x3,x4,x5,x6,x7,x8,x9,dw,cF,cK,dv,cT,dO,dJ]).value=ji (coreS t):=by
 unfold coreS
 have c0:ak (ae defs (n+1)) (.cmp .eq (.loc 2) (.const (.bytes []))) [T,I,some (.bytes t),x3,x4,x5,x6,x7,x8,x9,dw,cF,cK,dv,cT,dO,dJ]=.ok (.bool (decide (t=[]))):=E.cmp (x:=.bytes t) (y:=.bytes []) rfl rfl (by rw[vG];rfl)
 have ce:ak (ae defs (n+1)) (.and (.aG .endswith (.loc 2) (.cons (.const (.bytes [58])) .nil)) (.not (.aG .endswith (.loc 2) (.cons (.const (.bytes [58,58])) .nil)))) [T,I,some (.bytes t),x3,x4,x5,x6,x7,x8,x9,dw,cF,cK,dv,cT,dO,dJ]=.ok (.bool (qX t)):=C.and rfl (E.not rfl rfl)
 have cs:ak (ae defs (n+1)) (.and (.aG .startswith (.loc 2) (.cons (.const (.bytes [58])) .nil)) (.not (.aG .startswith (.loc 2) (.cons (.const (.bytes [58,58])) .nil)))) [T,I,some (.bytes t),x3,x4,x5,x6,x7,x8,x9,dw,cF,cK,dv,cT,dO,dJ]=.ok (.bool (mh t)):=C.and rfl (E.not rfl rfl)
 have c2:ak (ae defs (n+1)) (.cmp .eq (.loc 2) (.const (.bytes [58,58]))) [T,I,some (.bytes t),x3,x4,x5,x6,x7,x8,x9,dw,cF,cK,dv,cT,dO,dJ]=.ok (.bool (decide (t=[58,58]))):=E.cmp (x:=.bytes t) (y:=.bytes [58,58]) rfl rfl (by rw[vG];rfl)
 by_cases h0:t=[]
 ·rw[if_pos h0]
  exact S.kS (S.fu ((S.aE c0 (decide_eq_true h0)).trans rfl))
 ·rw[if_neg h0]
  cases h1:qX t with
  | true=>exact S.kS (S.fu ((S.cO c0 (decide_eq_false h0)).trans (S.last.trans ((S.aE ce h1).trans rfl))))
  | false=>
   cases h2:mh t with
   | true=>exact S.kS (S.fu ((S.cO c0 (decide_eq_false h0)).trans (S.last.trans ((S.cO ce h1).trans (S.last.trans ((S.aE cs h2).trans rfl))))))
   | false=>
    rw[if_neg Bool.false_ne_true,if_neg Bool.false_ne_true]
    have go:∀ {ρ':Ρ},bQ (ae defs (n+1)) (.ite (.cmp .eq (.loc 2) (.const (.bytes [58,58]))) (.cons (.assign 2 (.const (.bytes [48,58,58]))) .nil) .nil) [T,I,some (.bytes t),x3,x4,x5,x6,x7,x8,x9,dw,cF,cK,dv,cT,dO,dJ]=.next ρ'->
      aj (ae defs (n+1)) jM [T,I,some (.bytes t),x3,x4,x5,x6,x7,x8,x9,dw,cF,cK,dv,cT,dO,dJ]=aj (ae defs (n+1)) jL ρ':=fun h=>S.seq ((S.cO c0 (decide_eq_false h0)).trans (S.last.trans ((S.cO ce h1).trans (S.last.trans ((S.cO cs h2).trans (S.one h)))))) rfl
    by_cases hc:t=[58,58]
    ·rw[if_pos hc,go ((S.aE c2 (decide_eq_true hc)).trans (S.one (S.assign rfl)))]
     exact xS [48,58,58] (by decide) (by decide) (by decide) (by decide)
    ·rw[if_neg hc,go (S.skip (c2.trans (bZ (decide_eq_false hc))))]
     exact xS t ht hn hl h2
end
noncomputable def vQ (t:List Nat):Option (List Nat):=match ag 37 t with
 | [a,_]=>coreS a
 | [_]=>coreS t
 | _=>none
theorem vR {D:Fn->List V->R V}{t:List Nat}{x:V} (ht:∀ c∈t,c<128):bQ D nx [some (.str t),some x,none,none,none,none,none,none,none,none,none,none,none,none,none,none,none]=.next [some (.str t),some x,some (.bytes t),none,none,none,none,none,none,none,none,none,none,none,none,none,none]:=
 (S.aE rfl rfl).trans (S.one (S.assign (E.aG (x:=.str t) rfl rfl rfl ((xI t).trans (by rw[fQ ht];rfl)))))
theorem NV {n:Nat} (t:List Nat) (ht:∀ c∈t,c<128) (hn:10∉t) (hl:t.length<=520):ae defs (n+2) .bL [.str t]=ji (coreS t):=
 (congrArg SR.value (S.seq (r:=nz) (vR (D:=ae defs (n+1)) (x:=.bool false) ht) (S.seq (S.skip rfl) rfl))).trans (jR t ht hn hl)
theorem JC {n:Nat} (t:List Nat) (ht:∀ c∈t,c<128) (hn:10∉t) (hl:t.length<=520):ae defs (n+2) .bL [.bytes t]=ji (coreS t):=
 (congrArg SR.value (S.seq (D:=ae defs (n+1)) (s:=nx) (r:=nz) (J:=[some (.bytes t),some (.bool false),none,none,none,none,none,none,none,none,none,none,none,none,none,none,none]) rfl (S.seq (S.skip rfl) rfl))).trans (jR t ht hn hl)
theorem JD {n:Nat} (t:List Nat) (ht:∀ c∈t,c<128) (hn:10∉t) (hl:t.length<=520):ae defs (n+2) .bL [.str t,.bool true]=ji (vQ t):=by
 unfold vQ
 have Wm:∀ p∈ag 37 t,(∀ c∈p,c<128)/\10∉p/\p.length<=520:=fun p hp=>⟨fun c hc=>ht c (ix t p c hp hc),fun h=>hn (ix t p 10 hp h),Nat.le_trans (eI t p hp) hl⟩
 have e3:bQ (ae defs (n+1)) (.assign 3 (.aG .split (.loc 2) (.cons (.const (.bytes [37])) .nil))) [some (.str t),some (.bool true),some (.bytes t),none,none,none,none,none,none,none,none,none,none,none,none,none,none]=.next [some (.str t),some (.bool true),some (.bytes t),some (.list (vb (ag 37 t))),none,none,none,none,none,none,none,none,none,none,none,none,none]:=
  S.assign (E.aG (x:=.bytes t) rfl rfl (E.one rfl) ((ua t 37).trans (e8 (Nat.le_trans hl (by decide)) rfl)))
 have e4:bQ (ae defs (n+1)) (.assign 4 (.prim .len (.cons (.loc 3) .nil))) [some (.str t),some (.bool true),some (.bytes t),some (.list (vb (ag 37 t))),none,none,none,none,none,none,none,none,none,none,none,none,none]=.next [some (.str t),some (.bool true),some (.bytes t),some (.list (vb (ag 37 t))),some (vi (ag 37 t).length),none,none,none,none,none,none,none,none,none,none,none,none]:=S.assign (E.Jf rfl)
 have go:∀ {ρ':Ρ},bQ (ae defs (n+1)) (.ite (.cmp .eq (.loc 4) (.const (.int 2))) (.cons (.assign 2 (.idx (.loc 3) (.const (.int 0)))) .nil) (.cons (.ite (.cmp .gt (.loc 4) (.const (.int 2))) (.cons (.raise .syntax .nil) .nil) .nil) .nil)) [some (.str t),some (.bool true),some (.bytes t),some (.list (vb (ag 37 t))),some (vi (ag 37 t).length),none,none,none,none,none,none,none,none,none,none,none,none]=.next ρ'->
   aj (ae defs (n+1)) uX [some (.str t),some (.bool true),none,none,none,none,none,none,none,none,none,none,none,none,none,none,none]=aj (ae defs (n+1)) jM ρ':=fun h=>S.seq (vR ht) (S.seq ((S.aE rfl rfl).trans (S.seq e3 (S.seq e4 (S.one h)))) rfl)
 have XI:∀ {ρ':Ρ},bQ (ae defs (n+1)) (.ite (.cmp .eq (.loc 4) (.const (.int 2))) (.cons (.assign 2 (.idx (.loc 3) (.const (.int 0)))) .nil) (.cons (.ite (.cmp .gt (.loc 4) (.const (.int 2))) (.cons (.raise .syntax .nil) .nil) .nil) .nil)) [some (.str t),some (.bool true),some (.bytes t),some (.list (vb (ag 37 t))),some (vi (ag 37 t).length),none,none,none,none,none,none,none,none,none,none,none,none]=.exc .syntax ρ'->
   aj (ae defs (n+1)) uX [some (.str t),some (.bool true),none,none,none,none,none,none,none,none,none,none,none,none,none,none,none]=.exc .syntax ρ':=fun h=>S.seq (vR ht) (S.fu ((S.aE rfl rfl).trans (S.seq e3 (S.seq e4 (S.fu h)))))
 match GB:ag 37 t with
 | []=>exact absurd GB (dW t)
 | [a]=>
  rw[GB] at go
  exact (congrArg SR.value (go rfl)).trans (jR t ht hn hl)
 | [a,b]=>
  refine b5 (Wm a (by rw[GB];exact .head _)) fun q1 q2 q3=>?_
  rw[GB] at go
  exact (congrArg SR.value (go rfl)).trans (jR a q1 q2 q3)
 | a::b::c::r=>
  rw[GB] at XI
  refine S.kS (XI ((S.cO (E.cmp (op:=.eq) (x:=vi (a::b::c::r).length) (y:=vi 2) rfl rfl (bZ ((e7 _ 2).trans (decide_eq_false fun q=>by cases q)))) rfl).trans (S.last.trans ((S.aE (E.cmp (op:=.gt) (x:=vi (a::b::c::r).length) (y:=vi 2) rfl rfl (bZ ((fP 2 _).trans (decide_eq_true (Nat.succ_lt_succ (Nat.succ_lt_succ (Nat.succ_pos _))))))) rfl).trans rfl))))
theorem bM {c:Nat} (r:List Nat):ag c (c::r)=[]::ag c r:=by rw[aS,if_pos rfl]
theorem aV {c:Nat}:∀ (a b:List Nat),ag c (a++c::b)=ag c a++ag c b:=by
 intro z0
 induction z0 with
 | nil=>
  exact fun b=>bM b
 | cons x r ih=>
  intro b
  rw[List.cons_append,aS,aS,ih b]
  by_cases h:x=c
  ·rw[if_pos h,if_pos h];rfl
  ·rw[if_neg h,if_neg h]
   refine bT (bR (c:=c) r) fun p ps e=>?_
   rw[e];rfl
theorem bx {c:Nat}:∀ {q:List Nat},c∉q->ag c q=[q]:=by
 intro z0
 induction z0 with
 | nil=>
  exact fun O=>rfl
 | cons x r ih=>
  intro h
  rw[aS,if_neg (fun e=>h (by rw[e];exact .head _)),ih fun e=>h (.tail _ e)]
theorem jj {c x:Nat} (hx:x≠c):∀ {t:List Nat},x∈t->∃ p∈ag c t,x∈p
 | y::r,h=>by
  refine bT (bR (c:=c) r) fun p ps e=>?_
  rw[aS]
  rcases List.mem_cons.mp h with h | h
  ·subst h
   rw[if_neg hx,e]
   exact⟨_,.head _,.head _⟩
  ·refine Exists.elim (jj hx h) fun p' zz=>aB zz fun TC Wn=>?_
   by_cases hy:y=c
   ·rw[if_pos hy];exact⟨p',.tail _ TC,Wn⟩
   ·rw[if_neg hy,e]
    rw[e] at TC
    rcases List.mem_cons.mp TC with q | q
    ·subst q;exact⟨_,.head _,.tail _ Wn⟩
    ·exact⟨p',.tail _ q,Wn⟩
set_option tactic.hygienic true in
theorem nK {m:Nat}:∀ {t:List Nat}{n:Nat},aU n t=[]->aU m t=[]
 | [],n,_=>rfl
 | x::r,n,h=>by
  rw[bX] at h ⊢
  split at h
  ·contradiction
  ·rename_i q
   rw[if_neg q]
   exact nK h
set_option tactic.hygienic true in
theorem cY:∀ {t:List Nat}{n a:Nat}{rest:List Nat},aU n t=a::rest->∃ L R,t=L++58::58::R/\a=n+L.length/\aU n (L++[58])=[]/\rest=aU (a+1) (58::R):=by
 intro z0
 induction z0 with
 | nil=>
  intro n a rest h
  contradiction
 | cons x r ih=>
  intro n a rest h
  rw[bX] at h
  split at h
  ·rename_i q
   injection h with h zq;subst h zq
   obtain⟨rfl,q⟩:=q
   cases r with
   | nil=>cases q
   | cons y r'=>
    cases q
    exact⟨[],r',rfl,rfl,rfl,rfl⟩
  ·rename_i q
   refine bT (ih h) fun L R zz=>iV zz fun e1 e2 e3 e4=>?_
   refine⟨x::L,R,by rw[e1];rfl,by rw[e2,List.length_cons];lia,?_,e4⟩
   rw[List.cons_append,bX,if_neg]
   ·exact e3
   ·rintro ⟨rfl,hh⟩
    refine q ⟨rfl,?_⟩
    rw[e1]
    cases L with
    | nil=>rfl
    | cons y L'=>exact hh
theorem jS {w:List Nat} (hw:aU 0 w=[]) (hh:w.head?≠some 58):∀ (X:List Nat) (n:Nat),aU n (X++w)=aU n X:=by
 intro z0
 induction z0 with
 | nil=>
  intro n
  rw[List.nil_append,nK hw];rfl
 | cons x r ih=>
  intro n
  rw[List.cons_append,bX,bX,ih]
  have:(x=58/\(r++w).head?=some 58)↔(x=58/\r.head?=some 58):=by
   cases r with
   | nil=>simp only[List.nil_append,List.head?_nil];exact⟨fun q=>absurd q.2 hh,fun q=>by cases q.2⟩
   | cons y r'=>rfl
  by_cases q:x=58/\r.head?=some 58
  ·rw[if_pos q,if_pos (this.mpr q)]
  ·rw[if_neg q,if_neg fun z=>q (this.mp z)]
theorem fH {q:List Nat} (h:58∉q):∀ n,aU n q=[]:=by
 induction q with
 | nil=>intro n;rfl
 | cons x r ih=>
  intro n
  rw[bX,if_neg fun z=>h (by rw[z.1];exact .head _)]
  exact ih (fun e=>h (.tail _ e)) _
set_option tactic.hygienic true in
theorem gN:∀ {t:List Nat}{n:Nat},aU n t=[]->t≠[]->t.head?≠some 58->t.getLast?≠some 58->[]∉ag 58 t
 | [],n,_,h,_,_=>absurd rfl h
 | [x],n,_,_,h1,_=>by
  have:x≠58:=fun e=>h1 (by rw[e];rfl)
  simp[fA,aS,this]
 | x::y::r,n,hc,_,h1,h2=>by
  have hx:x≠58:=fun e=>h1 (by rw[e];rfl)
  rw[aS,if_neg hx]
  rw[bX,if_neg fun z=>hx z.1] at hc
  rw[List.getLast?_cons_cons] at h2
  by_cases hy:y=58
  ·subst hy
   rw[bM]
   have hr:r≠[]:=fun e=>h2 (by rw[e];rfl)
   rw[bX] at hc
   split at hc
   ·contradiction
   ·rename_i q
    have hh:r.head?≠some 58:=fun e=>q ⟨rfl,e⟩
    have h3:r.getLast?≠some 58:=by
     cases r with
     | nil=>exact absurd rfl hr
     | cons z r'=>rwa [List.getLast?_cons_cons] at h2
    have ih:=gN hc hr hh h3
    intro hm
    rcases List.mem_cons.mp hm with e | e
    ·contradiction
    ·exact ih e
  ·have ih:=gN hc (by simp) (by simpa using hy) h2
   refine bT (bR (c:=58) (y::r)) fun p ps e=>?_
   rw[e] at ih ⊢
   intro hm
   rcases List.mem_cons.mp hm with q | q
   ·contradiction
   ·exact ih (.tail _ q)
theorem xT {p:List Nat} (h:4<p.length):aQ p=none:=by unfold aQ;rw[if_pos (.inr h)]
theorem PT (a b c d:Nat) (s:List Nat):dh (a::b::c::d::s)=match cj a,cj b,cj c,cj d with
  | some w,some x,some y,some z=>(dh s).map fun g=>(w*16+x)::(y*16+z)::g
  | _,_,_,_=>none:=by
 rw[jP,jP]
 cases cj a<;>cases cj b<;>cases cj c<;>cases cj d<;>cases dh s<;>rfl
theorem jT (a b c d:Nat) (s:List Nat):dh (a::b::c::d::s)=match cX [a,b,c,d] 0 with
  | some v=>(dh s).map fun g=>v / 256::v % 256::g
  | none=>none:=by
 rw[PT,dY]
 cases ha:cj a with
 | none=>rfl
 | some w=>
 dsimp only[dY,nF]
 cases hb:cj b with
 | none=>rfl
 | some x=>
 dsimp only
 cases hc:cj c with
 | none=>rfl
 | some y=>
 dsimp only
 cases hd:cj d with
 | none=>rfl
 | some z=>
 have hy:=jN hc
 have hz:=jN hd
 dsimp only
 have e:(((0*16+w)*16+x)*16+y)*16+z=(w*16+x)*256+(y*16+z):=by lia
 have l:y*16+z<256:=by lia
 rw[e,Nat.mul_comm (w*16+x),Nat.mul_add_div (by decide),Nat.mul_add_mod,Nat.div_eq_of_lt l,Nat.mod_eq_of_lt l,Nat.add_zero]
theorem JF {p:List Nat} (h0:p≠[]) (h4:p.length<=4) (s:List Nat):dh (kZ p++s)=match aQ p with
  | some v=>(dh s).map fun g=>v / 256::v % 256::g
  | none=>none:=by
 cases p with
 | nil=>exact absurd rfl h0
 | cons a p=>
 cases p with
 | nil=>exact (jT 48 48 48 a s).trans (by kernel_rfl)
 | cons b p=>
 cases p with
 | nil=>exact (jT 48 48 a b s).trans (by kernel_rfl)
 | cons c p=>
 cases p with
 | nil=>exact (jT 48 a b c s).trans (by kernel_rfl)
 | cons d p=>
 cases p with
 | nil=>exact (jT a b c d s).trans (by kernel_rfl)
 | cons _ _=>exact absurd h4 (by simp)
theorem dy (p:List Nat) (r:List (List Nat)):bI (p::r) false=match aQ p with
  | some v=>(bI r false).map (v::·)
  | none=>none:=by
 rw[fR]
 cases aQ p with
 | some v=>rfl
 | none=>simp
theorem nM:∀ (ps:List (List Nat)) (s:List Nat),(∀ p∈ps,p≠[]/\p.length<=4)->dh ((ps.map kZ).flatten++s)=match bI ps false with
  | some g=>(dh s).map fun t=>aJ g++t
  | none=>none:=by
 intro z0
 induction z0 with
 | nil=>
  intro s _
  show dh s=(dh s).map fun t=>t
  cases dh s<;>rfl
 | cons p r ih=>
  intro s h
  rw[List.map_cons,List.flatten_cons,List.append_assoc,JF (h p (.head _)).1 (h p (.head _)).2,ih s fun q hq=>h q (.tail _ hq),dy]
  cases aQ p with
  | none=>rfl
  | some v=>
   cases bI r false with
   | none=>rfl
   | some g=>skip;cases dh s<;>rfl
theorem AY (s:List Nat):∀ k:Nat,dh ((List.replicate k [48,48,48,48]).flatten++s)=(dh s).map fun t=>aJ (List.replicate k 0)++t:=by
 intro z0
 induction z0 with
 | zero=>
  show dh s=(dh s).map fun t=>t
  cases dh s<;>rfl
 | succ k ih=>
  rw[List.replicate_succ,List.flatten_cons,List.append_assoc]
  show dh (48::48::48::48::((List.replicate k [48,48,48,48]).flatten++s))=_
  rw[PT,show cj 48=some 0 from rfl,ih,List.replicate_succ]
  cases dh s<;>rfl
theorem nO:∀ {ps:List (List Nat)}{g:List Nat},bI ps false=some g->g.length=ps.length:=by
 intro z0
 induction z0 with
 | nil=>
  intro g h
  injection h with h;subst h;rfl
 | cons p r ih=>
  intro g h
  rw[dy] at h
  cases hv:aQ p with
  | none=>rw[hv] at h;contradiction
  | some v=>
   rw[hv] at h
   cases hq:bI r false with
   | none=>rw[hq] at h;contradiction
   | some g'=>rw[hq] at h;injection h with h;subst h;simp[ih hq]
theorem gO {e:Bool}:∀ {ps:List (List Nat)}{p:List Nat},p∈ps->aQ p=none->aH p=[]->bI ps e=none
 | q::r,p,h,hv,hq=>by
  rw[fR]
  rcases List.mem_cons.mp h with z | z
  ·subst z
   rw[hv]
   dsimp only
   rw[if_neg fun z=>z.1 hq]
  ·cases VP:aQ q with
   | some v=>rw[gO z hv hq];rfl
   | none=>
    dsimp only
    rw[if_neg]
    rintro ⟨_,_,rfl⟩
    contradiction
theorem k4 {ps:List (List Nat)}{p:List Nat} (h:p∈ps) (hl:4<p.length):bI ps false=none:=by
 induction ps with
 | nil=>cases h
 | cons q r ih=>
  rw[dy]
  rcases List.mem_cons.mp h with z | z
  ·rw[<- z,xT hl]
  ·rw[ih z];cases aQ q<;>rfl
theorem k6 {l:Nat}:∀ (A rest:List (List Nat)) (seen:Bool) (acc:List (List Nat)),[]∉A->cP l (A++rest) seen acc=if ∀ c∈A,c.length<=4 then cP l rest seen (acc++A.map kZ) else none:=by
 intro z0
 induction z0 with
 | nil=>
  intro rest seen acc _
  rw[if_pos (fun c h=>by contradiction)];simp
 | cons c A ih=>
  intro rest seen acc h
  have hc:c≠[]:=fun e=>h (by rw[e];exact .head _)
  rw[List.cons_append,dj,if_neg hc]
  by_cases h4:4<c.length
  ·rw[if_pos h4,if_neg fun z=>absurd (z c (.head _)) (by lia)]
  ·rw[if_neg h4,ih rest seen _ fun e=>h (.tail _ e)]
   have:(∀ d∈c::A,d.length<=4)↔∀ d∈A,d.length<=4:=⟨fun z d hd=>z d (.tail _ hd),fun z d hd=>by
    rcases List.mem_cons.mp hd with rfl | hd
    ·lia
    ·exact z d hd⟩
   by_cases q:∀ d∈A,d.length<=4
   ·rw[if_pos q,if_pos (this.mpr q)];simp
   ·rw[if_neg q,if_neg fun z=>q (this.mp z)]
theorem oW {l:Nat}:∀ (B acc:List (List Nat)),[]∈B->cP l B true acc=none
 | c::B,acc,h=>by
  rw[dj]
  by_cases hc:c=[]
  ·rw[if_pos hc,if_pos rfl]
  ·rw[if_neg hc]
   have:[]∈B:=by
    rcases List.mem_cons.mp h with e | e
    ·exact absurd e.symm hc
    ·exact e
   split
   ·rfl
   ·exact oW B _ this
theorem AZ {l:Nat}{B:List (List Nat)} (hB:[]∈B):∀ (A:List (List Nat)) (seen:Bool) (acc:List (List Nat)),cP l (A++[]::B) seen acc=none:=by
 intro z0
 induction z0 with
 | nil=>
  intro seen acc
  rw[List.nil_append,dj,if_pos rfl]
  split
  ·rfl
  ·exact oW B _ hB
 | cons c A ih=>
  intro seen acc
  rw[List.cons_append,dj]
  split
  ·split
   ·rfl
   ·exact ih true _
  ·split
   ·rfl
   ·exact ih seen _
theorem nP {A B:List (List Nat)} (hB:[]∈B):gw (A++[]::B)=none:=by
 unfold gw
 split
 ·rfl
 ·rw[AZ hB]
theorem GC {A:List (List Nat)} (h:[]∉A):gw A=(match bI A false with
  | some g=>if g.length=8 then some g else none
  | none=>none).map aJ:=by
 unfold gw
 have hA:=k6 (l:=A.length) A [] false [] h
 rw[List.append_nil] at hA
 rw[hA]
 by_cases h4:∀ c∈A,c.length<=4
 ·rw[if_pos h4]
  show (if 8<A.length then none else if A.length<8/\false=false then none else dh (([]:List (List Nat))++A.map kZ).flatten)=_
  have hx:=nM A [] fun p hp=>⟨fun e=>h (by rw[<- e];exact hp),h4 p hp⟩
  rw[List.append_nil] at hx
  rw[List.nil_append,hx]
  cases hq:bI A false with
  | none=>
   split
   ·rfl
   ·split<;>rfl
  | some g=>
   have hl:=nO hq
   dsimp only
   rw[hl]
   by_cases h8:A.length=8
   ·rw[if_neg (by lia),if_neg (by lia),if_pos h8]
    simp[xR]
   ·rw[if_neg h8]
    split
    ·rfl
    ·rw[if_pos ⟨by lia,rfl⟩];rfl
 ·rw[if_neg h4]
  have:bI A false=none:=by
   have:∃ c∈A,4<c.length:=Classical.byContradiction fun q=>h4 fun c hc=>Nat.le_of_not_lt fun z=>q ⟨c,hc,z⟩
   refine Exists.elim this fun c zz=>aB zz fun hc hl=>?_
   exact k4 hc hl
  rw[this]
  split<;>rfl
theorem nQ {A B:List (List Nat)} (hA:[]∉A) (hB:[]∉B):gw (A++[]::B)=(match bI A false,bI B false with
  | some l,some r=>if l.length+r.length<=7 then some (l++List.replicate (8 - l.length - r.length) 0++r) else none
  | _,_=>none).map aJ:=by
 unfold gw
 have hlen:(A++[]::B).length=A.length+B.length+1:=by rw[List.length_append,List.length_cons];lia
 rw[hlen,k6 A _ false [] hA]
 by_cases h4:∀ c∈A,c.length<=4
 ·rw[if_pos h4,dj,if_pos rfl,if_neg Bool.false_ne_true]
  have hb:=k6 (l:=A.length+B.length+1) B [] true ([]++A.map kZ++List.replicate (9 - (A.length+B.length+1)) [48,48,48,48]) hB
  rw[List.append_nil] at hb
  rw[hb]
  by_cases h5:∀ c∈B,c.length<=4
  ·rw[if_pos h5]
   show (if 8<A.length+B.length+1 then none else if A.length+B.length+1<8/\true=false then none else dh (([]:List (List Nat))++A.map kZ++List.replicate (9 - (A.length+B.length+1)) [48,48,48,48]++B.map kZ).flatten)=_
   rw[if_neg (show ¬ (A.length+B.length+1<8/\true=false) from fun q=>by cases q.2)]
   rw[List.nil_append,List.flatten_append,List.flatten_append,List.append_assoc,nM A _ fun p hp=>⟨fun e=>hA (by rw[<- e];exact hp),h4 p hp⟩,AY]
   have hx:=nM B [] fun p hp=>⟨fun e=>hB (by rw[<- e];exact hp),h5 p hp⟩
   rw[List.append_nil] at hx
   rw[hx]
   cases hq:bI A false with
   | none=>split<;>rfl
   | some g=>
    cases hr:bI B false with
    | none=>split<;>rfl
    | some k=>
     have hl:=nO hq
     have AX:=nO hr
     dsimp only
     rw[hl,AX]
     by_cases h7:A.length+B.length<=7
     ·rw[if_neg (by lia),if_pos h7,show 9 - (A.length+B.length+1)=8 - A.length - B.length by lia]
      simp[xR,oU]
     ·rw[if_pos (by lia),if_neg h7];rfl
  ·rw[if_neg h5]
   have:bI B false=none:=by
    have:∃ c∈B,4<c.length:=Classical.byContradiction fun q=>h5 fun c hc=>Nat.le_of_not_lt fun z=>q ⟨c,hc,z⟩
    refine Exists.elim this fun c zz=>aB zz fun hc hl=>?_
    exact k4 hc hl
   rw[this]
   cases bI A false<;>split<;>rfl
 ·rw[if_neg h4]
  have:bI A false=none:=by
   have:∃ c∈A,4<c.length:=Classical.byContradiction fun q=>h4 fun c hc=>Nat.le_of_not_lt fun z=>q ⟨c,hc,z⟩
   refine Exists.elim this fun c zz=>aB zz fun hc hl=>?_
   exact k4 hc hl
  rw[this]
  split<;>rfl
noncomputable def qZ (t:List Nat):Option (List Nat):=match aU 0 t with
 | []=>(match bI (ag 58 t) false with
  | some g=>if g.length=8 then some g else none
  | none=>none)
 | [a]=>(match aZ (t.take a) false,aZ (t.drop (a+2)) false with
  | some l,some r=>if l.length+r.length<=7 then some (l++List.replicate (8 - l.length - r.length) 0++r) else none
  | _,_=>none)
 | _=>none
theorem TF (t:List Nat):([58]:List Nat).isPrefixOf t=true↔t.head?=some 58:=by
 rw[List.isPrefixOf_iff_prefix]
 cases t with
 | nil=>exact⟨fun ⟨s,e⟩=>(by contradiction),fun e=>(by contradiction)⟩
 | cons a r=>exact⟨fun ⟨s,e⟩=>(by injection e with e;subst e;rfl),fun e=>(by injection e with e;subst e;exact⟨r,rfl⟩)⟩
theorem GD (t:List Nat):([58,58]:List Nat).isPrefixOf t=true↔∃ r,t=58::58::r:=by
 rw[List.isPrefixOf_iff_prefix]
 exact⟨fun ⟨s,e⟩=>⟨s,e.symm⟩,fun ⟨s,e⟩=>⟨s,e.symm⟩⟩
theorem xU {b:Bool}{p:Prop} (h:b=true↔p) (n:¬ p):b=false:=by
 rw[Bool.eq_false_iff];exact fun q=>n (h.mp q)
theorem gh (p t:List Nat):p.isSuffixOf t=true↔∃ s,t=s++p:=by
 rw[List.isSuffixOf_iff_suffix]
 exact⟨fun ⟨s,e⟩=>⟨s,e.symm⟩,fun ⟨s,e⟩=>⟨s,e.symm⟩⟩
theorem gP (t:List Nat):t.getLast?=some 58↔∃ s,t=s++[58]:=List.getLast?_eq_some_iff
structure C6 (t:List Nat):Prop where
 ne:t≠[]
 two:t≠[58,58]
 st:t.head?=some 58->∃ r,t=58::58::r
 en:t.getLast?=some 58->∃ s,t=s++[58,58]
theorem JG {t:List Nat} (h0:t≠[]) (h1:qX t=false) (h2:mh t=false) (h3:t≠[58,58]):C6 t:=by
 refine⟨h0,h3,fun h=>?_,fun h=>?_⟩
 ·unfold mh at h2
  rw[(TF t).mpr h,Bool.true_and,Bool.not_eq_false'] at h2
  exact (GD t).mp h2
 ·unfold qX at h1
  rw[(gh _ _).mpr ((gP t).mp h),Bool.true_and,Bool.not_eq_false'] at h1
  exact (gh _ _).mp h1
theorem dZ {L R:List Nat}:∀ n,aU n (L++58::58::R)≠[]:=by
 induction L with
 | nil=>intro n h;rw[List.nil_append,aU,if_pos ⟨rfl,rfl⟩] at h;contradiction
 | cons x r ih=>
  intro n h
  rw[List.cons_append,aU] at h
  split at h
  ·contradiction
  ·exact ih _ h
theorem A0 {r:List Nat}:ag 58 r=(ag 58 (58::r)).tail:=by rw[bM];rfl
theorem A1 (s:List Nat):ag 58 s=(ag 58 (s++[58])).dropLast:=by
 have:=aV (c:=58) s []
 rw[this]
 show _=(ag 58 s++[[]]).dropLast
 rw[List.dropLast_concat]
theorem JH {t:List Nat}{a b:Nat}{r:List Nat} (h:aU 0 t=a::b::r):∃ X Y Z:List (List Nat),ag 58 t=X++[]::(Y++[]::Z)/\X≠[]/\Z≠[]:=by
 refine bT (cY h) fun L R zz=>iV zz fun e1 e2 e3 e4=>?_
 refine bT (cY e4.symm) fun L' R' zz=>iV zz fun f1 f2 f3 f4=>?_
 have s1:ag 58 t=ag 58 L++[]::ag 58 R:=by rw[e1,aV,bM]
 cases L' with
 | nil=>
  have hR:R=58::R':=by simpa using f1
  refine⟨ag 58 L,[],ag 58 R',?_,dW L,dW R'⟩
  rw[s1,hR,bM];rfl
 | cons x TG=>
  have hR:R=TG++58::58::R':=by
   have:=congrArg List.tail f1
   simpa using this
  refine⟨ag 58 L,ag 58 TG,ag 58 R',?_,dW L,dW R'⟩
  rw[s1,hR,aV,bM]
set_option tactic.hygienic true in
theorem jk {t:List Nat} (E:C6 t):uh t=(qZ t).map aJ:=by
 unfold uh qZ
 match hc:aU 0 t with
 | []=>
  have np:([58,58]:List Nat).isPrefixOf t=false:=by
   refine xU (GD t) ?_
   rintro ⟨r,rfl⟩
   exact dZ (L:=[]) 0 hc
  have ns:([58,58]:List Nat).isSuffixOf t=false:=by
   rw[Bool.eq_false_iff]
   intro q
   refine Exists.elim ((gh _ _).mp q) fun s av=>?_;subst av
   exact dZ (L:=s) 0 hc
  have rg:dq t=t:=by unfold dq;rw[np,ns];rfl
  have aq:[]∉ag 58 t:=gN hc E.ne (fun h=>by
   refine Exists.elim (E.st h) fun r av=>?_;subst av
   exact dZ (L:=[]) 0 hc) fun h=>by
   refine Exists.elim (E.en h) fun s av=>?_;subst av
   exact dZ (L:=s) 0 hc
  rw[rg,GC aq]
  try rfl
 | a::b::r=>
  refine eA (JH hc) fun X Y Z zz=>b5 zz fun e hX hZ=>?_
  show gw _=none
  have XJ:∃ x X',X=x::X':=by
   cases X with
   | nil=>exact absurd rfl hX
   | cons x X'=>exact⟨x,X',rfl⟩
  refine bT XJ fun x X' av=>?_;try clear XJ;subst av
  unfold dq
  split
  ·rename_i q
   refine Exists.elim ((GD t).mp q) fun r' av=>?_;subst av
   rw[List.drop_one,List.tail_cons,A0,e]
   show gw (X'++[]::(Y++[]::Z))=none
   exact nP (List.mem_append_right _ (.head _))
  ·split
   ·rename_i q
    refine Exists.elim ((gh _ _).mp q) fun s av=>?_;subst av
    have:(s++[58,58]).take ((s++[58,58]).length - 1)=s++[58]:=by
     rw[show s++[58,58]=(s++[58])++[58] by simp,List.length_append,List.length_singleton,Nat.add_sub_cancel,List.take_left']
     rfl
    rw[this,A1,show s++[58]++[58]=s++[58,58] by simp,e]
    have:(x::X'++[]::(Y++[]::Z)).dropLast=x::X'++[]::(Y++[]::Z.dropLast):=by
     rw[show x::X'++[]::(Y++[]::Z)=(x::X'++[]::(Y++[[]]))++Z by simp,List.dropLast_append_of_ne_nil hZ]
     simp
    rw[this]
    exact nP (List.mem_append_right _ (.head _))
   ·rw[e]
    exact nP (List.mem_append_right _ (.head _))
 | [a]=>
  refine bT (cY hc) fun L R zz=>iV zz fun e1 e2 e3 e4=>?_
  rw[Nat.zero_add] at e2
  have ri:t.take a=L:=by rw[e1,e2,List.take_left]
  have rj:t.drop (a+2)=R:=by rw[e1,e2,<- List.drop_drop,List.drop_left];rfl
  dsimp only
  rw[ri,rj]
  have hL:L≠[]->[]∉ag 58 L:=fun hn=>by
   have XK:L.getLast?≠some 58:=fun q=>by
    refine Exists.elim ((gP L).mp q) fun s av=>?_;subst av
    rw[List.append_assoc] at e3
    exact dZ (L:=s) (R:=[]) 0 e3
   refine gN (n:=0) ?_ hn (fun q=>?_) XK
   ·match Wo:aU 0 L with
    | []=>rfl
    | c::rr=>
     refine bT (cY Wo) fun L1 R1 zz=>aB zz fun g1 O=>?_
     rw[g1] at e3
     simp only[List.append_assoc,List.cons_append] at e3
     exact absurd e3 (dZ 0)
   ·have:t.head?=some 58:=by rw[e1];cases L with
     | nil=>exact absurd rfl hn
     | cons x L'=>simpa using q
    refine Exists.elim (E.st this) fun r hr=>?_
    rw[e1] at hr
    cases L with
    | nil=>exact hn rfl
    | cons x L'=>
     cases L' with
     | nil=>
      have hx:x=58:=by simpa using q
      exact XK (by rw[hx];rfl)
     | cons y TG=>
      simp at hr
      refine b5 hr fun av gQ O=>?_;try clear hr;subst av;subst gQ
      exact dZ (L:=[]) (R:=TG++[58]) 0 (show aU 0 ([]++58::58::(TG++[58]))=[] from e3)
  have hR:R≠[]->[]∉ag 58 R:=fun hn=>by
   have e5:=e4.symm
   rw[bX] at e5
   split at e5
   ·contradiction
   ·rename_i q
    refine gN e5 hn (fun z=>q ⟨rfl,z⟩) fun z=>?_
    have:t.getLast?=some 58:=by
     rw[e1]
     refine Exists.elim ((gP R).mp z) fun s av=>?_;subst av
     exact (gP _).mpr ⟨L++58::58::s,by simp⟩
    refine Exists.elim (E.en this) fun s hs=>?_
    refine Exists.elim ((gP R).mp z) fun s2 av=>?_;subst av
    rcases List.eq_nil_or_concat s2 with rfl | ⟨s3,y,rfl⟩
    ·exact q ⟨rfl,rfl⟩
    ·have h1:L++58::58::(s3++[y])++[58]=s++[58]++[58]:=by rw[e1] at hs;simpa using hs
     have h2:=(List.append_inj' h1 rfl).1
     have h3:L++58::58::s3++[y]=s++[58]:=by simpa using h2
     have h4:=(List.append_inj' h3 rfl).2
     have hy:y=58:=by simpa using h4
     subst hy
     have h5:s3++[58]++[58]=s3++58::58::[]:=by simp
     rw[List.concat_eq_append,h5] at e5
     exact dZ _ e5
  by_cases hLn:L=[]
  ·subst hLn
   have PV:R≠[]:=fun q=>E.two (by rw[e1,q];rfl)
   have np:([58,58]:List Nat).isPrefixOf t=true:=(GD t).mpr ⟨R,e1⟩
   have rg:dq t=58::R:=by unfold dq;rw[np,if_pos rfl,e1];rfl
   rw[rg,bM]
   have:=nQ (A:=[]) (B:=ag 58 R) (by simp) (hR PV)
   rw[List.nil_append] at this
   rw[this]
   unfold aZ
   rw[if_pos rfl,if_neg PV];rfl
  ·have np:([58,58]:List Nat).isPrefixOf t=false:=by
    refine xU (GD t) ?_
    rintro ⟨r,hr⟩
    have TH:=hL hLn
    rw[e1] at hr
    cases L with
    | nil=>exact hLn rfl
    | cons x L'=>
     have hx:x=58:=by simpa using congrArg List.head? hr
     subst hx
     rw[bM] at TH
     exact TH (.head _)
   by_cases PV:R=[]
   ·subst PV
    have ns:([58,58]:List Nat).isSuffixOf t=true:=(gh _ _).mpr ⟨L,e1⟩
    have rg:dq t=L++[58]:=by
     unfold dq
     rw[np,ns,if_neg Bool.false_ne_true,if_pos rfl,e1]
     rw[show L++[58,58]=(L++[58])++[58] by simp,List.length_append,List.length_singleton,Nat.add_sub_cancel,List.take_left']
     rfl
    rw[rg,aV]
    have:=nQ (A:=ag 58 L) (B:=[]) (hL hLn) (by simp)
    rw[show ag 58 ([]:List Nat)=[[]] from rfl,this]
    unfold aZ
    rw[if_pos rfl,if_neg hLn];rfl
   ·have ns:([58,58]:List Nat).isSuffixOf t=false:=by
     rw[Bool.eq_false_iff]
     intro q
     refine Exists.elim ((gh _ _).mp q) fun s hs=>?_
     have TH:=hR PV
     have:R.getLast?=some 58:=by
      have h1:t.getLast?=some 58:=by rw[hs];simp
      rcases List.eq_nil_or_concat R with h2 | ⟨R2,z,h2⟩
      ·exact absurd h2 PV
      ·rw[e1,h2,List.concat_eq_append,show L++58::58::(R2++[z])=(L++58::58::R2)++[z] by simp,List.getLast?_concat] at h1
       rw[h2,List.concat_eq_append,List.getLast?_concat]
       exact h1
     refine Exists.elim ((gP R).mp this) fun s' av=>?_;subst av
     rw[aV] at TH
     exact TH (List.mem_append_right _ (.head _))
    have rg:dq t=t:=by unfold dq;rw[np,ns];rfl
    rw[rg,e1,aV,bM,nQ (hL hLn) (hR PV)]
    unfold aZ
    rw[if_neg hLn,if_neg PV]
    try rfl
theorem fI (p:List Nat) (r:List (List Nat)) (e:Bool):bI (p::r) e=(match aQ p with | some v=>(bI r e).map (v::·) | none=>if aH p≠[]/\e=true/\r=[] then some (nG (aH p)) else none):=by rw[fR];try rfl
theorem uj:∀ {ps:List (List Nat)},(∀ q,ps.getLast?=some q->aH q=[])->bI ps true=bI ps false:=by
 intro z0
 induction z0 with
 | nil=>
  exact fun O=>rfl
 | cons p r ih=>
  intro h
  rw[fR,dy]
  cases hv:aQ p with
  | none=>
   rw[if_neg]
   rintro ⟨h1,_,rfl⟩
   exact h1 (h p rfl)
  | some v=>
   rw[ih fun q hq=>h q (by
    cases r with
    | nil=>contradiction
    | cons y r'=>rwa [List.getLast?_cons_cons])]
theorem k7 {t L R q:List Nat} (e:t=L++58::58::R) (h:(ag 58 t).getLast?=some q):(ag 58 R).getLast?=some q:=by
 rw[e,aV,bM] at h
 have:ag 58 L++[]::ag 58 R=(ag 58 L++[[]])++ag 58 R:=by simp
 rw[this] at h
 rcases List.eq_nil_or_concat (ag 58 R) with h2 | ⟨ps,p,h2⟩
 ·exact absurd h2 (dW R)
 ·rw[h2,List.concat_eq_append,<- List.append_assoc,List.getLast?_concat] at h
  rw[h2,List.concat_eq_append,List.getLast?_concat]
  exact h
theorem xV {ps:List (List Nat)}{q:List Nat} (h:ps.getLast?=some q):q∈ps:=List.mem_of_getLast? h
theorem uk {t q:List Nat} (h:(ag 58 t).getLast?=some q) (hv:aQ q=none) (hq:aH q=[]) (hR:∀ L R,t=L++58::58::R->R≠[]):bA t=none:=by
 unfold bA
 match hc:aU 0 t with
 | a::b::r=>rfl
 | []=>
  dsimp only
  by_cases h0:t=[]
  ·subst h0;rfl
  ·unfold aZ
   rw[if_neg h0,gO (xV h) hv hq]
 | [a]=>
  refine bT (cY hc) fun L R zz=>iV zz fun e1 e2 e3 e4=>?_
  rw[Nat.zero_add] at e2
  have rj:t.drop (a+2)=R:=by rw[e1,e2,<- List.drop_drop,List.drop_left];rfl
  have hn:=hR L R e1
  have:aZ R true=none:=by
   unfold aZ
   rw[if_neg hn,gO (xV (k7 e1 h)) hv hq]
  dsimp only
  rw[rj,this]
  cases aZ (t.take a) false<;>rfl
theorem A2 {t q:List Nat} (h0:t≠[]) (h:(ag 58 t).getLast?=some q) (hq:aH q=[]):bA t=qZ t:=by
 unfold bA qZ
 match hc:aU 0 t with
 | a::b::r=>rfl
 | []=>
  dsimp only
  unfold aZ
  rw[if_neg h0,uj fun p hp=>by rw[h] at hp;injection hp with hp;subst hp;exact hq]
  try rfl
 | [a]=>
  refine bT (cY hc) fun L R zz=>iV zz fun e1 e2 e3 e4=>?_
  rw[Nat.zero_add] at e2
  have rj:t.drop (a+2)=R:=by rw[e1,e2,<- List.drop_drop,List.drop_left];rfl
  have:aZ R true=aZ R false:=by
   unfold aZ
   split
   ·rfl
   ·rw[uj fun p hp=>by rw[k7 e1 h] at hp;injection hp with hp;subst hp;exact hq]
  dsimp only
  rw[rj,this]
  try rfl
theorem rm {c:Nat} (hc:cj c=none):∀ {p:List Nat} (v:Nat),c∈p->cX p v=none
 | x::r,v,h=>by
  rw[dY]
  rcases List.mem_cons.mp h with e | e
  ·rw[<- e,hc]
  ·cases cj x with
   | none=>rfl
   | some d=>exact rm hc _ e
theorem rn {c:Nat} (hc:cj c=none) {p:List Nat} (h:c∈p):aQ p=none:=by
 unfold aQ
 split
 ·rfl
 ·exact rm hc _ h
set_option tactic.hygienic true in
theorem iy {q:List Nat} (h:aH q≠[]):qW q:=by
 rw[dX] at h
 split at h
 ·rename_i z
  refine⟨z.1,fun p hp=>?_⟩
  have:=((l0 p).mp (z.2 p hp)).1
  unfold jf at this
  rw[Bool.and_eq_true] at this
  exact this.1
 ·exact absurd rfl h
theorem mi {q:List Nat} (h:qW q):46∈q:=by
 refine Classical.byContradiction fun z=>?_
 have:=h.1
 rw[bx z] at this
 cases this
theorem fS {q:List Nat} (h:qW q):aQ q=none:=rn (c:=46) rfl (mi h)
theorem jl {n:Nat} (h:n<16):cj (dC n)=some n/\dC n≠58:=by
 have:∀ n:Fin 16,cj (dC n.1)=some n.1/\dC n.1≠58:=by decide +kernel
 exact this ⟨n,h⟩
theorem um {a b:Nat} (ha:a<256) (hb:b<256):aQ (hex2 a++hex2 b)=some (a*256+b):=by
 show aQ [dC (a / 16),dC (a % 16),dC (b / 16),dC (b % 16)]=_
 unfold aQ
 rw[if_neg (by simp)]
 rw[fD (jl (show a / 16<16 by lia)).1,fD (jl (show a % 16<16 by lia)).1,fD (jl (show b / 16<16 by lia)).1,fD (jl (show b % 16<16 by lia)).1,nF]
 congr 1
 lia
theorem nR {q h1 h2:List Nat}{a b c d:Nat} (hv:aQ q=none) (hq:aH q=[a,b,c,d]) (e1:aQ h1=some (a*256+b)) (e2:aQ h2=some (c*256+d)):∀ ps:List (List Nat),bI (ps++[q]) true=bI (ps++[h1,h2]) false:=by
 intro z0
 induction z0 with
 | nil=>
  rw[List.nil_append,List.nil_append,fR,hv,dy,e1,dy,e2,hq]
  rfl
 | cons p r ih=>
  rw[List.cons_append,List.cons_append,fR,dy,ih]
  cases aQ p with
  | some v=>rfl
  | none=>
   rw[if_neg]
   rintro ⟨_,_,z⟩
   exact List.cons_ne_nil _ _ (List.append_eq_nil_iff.mp z).2
structure TJ (w h1 h2:List Nat):Prop where
 split:ag 58 w=[h1,h2]
 cuts:aU 0 w=[]
 head:w.head?≠some 58
 last:w.getLast?≠some 58
 ne:w≠[]
theorem Wq {a b c d:Nat} (ha:a<256) (hb:b<256) (hc:c<256) (hd:d<256):TJ (eR [a,b,c,d]) (hex2 a++hex2 b) (hex2 c++hex2 d):=by
 have n:∀ v,v<256->dC (v / 16)≠58/\dC (v % 16)≠58:=fun v hv=>⟨(jl (by lia)).2,(jl (by lia)).2⟩
 refine aB (n a ha) fun a1 a2=>?_
 refine aB (n b hb) fun b1 b2=>?_
 refine aB (n c hc) fun c1 c2=>?_
 refine aB (n d hd) fun d1 d2=>?_
 refine⟨?_,?_,?_,?_,?_⟩
 ·simp[eJ,hex2,fA,aS,a1,a2,b1,b2,c1,c2,d1,d2]
 ·simp[eJ,hex2,Ju,bX,a1,a2,b1,b2,c1,c2,d1,d2]
 ·simp[eJ,hex2,a1]
 ·simp[eJ,hex2,d2]
 ·simp[eJ,hex2]
theorem GF {m q w h1 h2:List Nat}{a b c d:Nat} (sL:58∉q) (Rd:q≠[]) (hv:aQ q=none) (hq:aH q=[a,b,c,d]) (e1:aQ h1=some (a*256+b)) (e2:aQ h2=some (c*256+d)) (W:TJ w h1 h2) :
  bA (m++58::q)=qZ (m++58::w):=by
 have YQ:q.head?≠some 58:=fun z=>by
  cases q with
  | nil=>contradiction
  | cons x r=>exact sL (by simp at z;rw[z];exact .head _)
 have cq:aU 0 (m++58::q)=aU 0 (m++[58]):=by
  rw[show m++58::q=(m++[58])++q by simp];exact jS (fH sL 0) YQ _ _
 have cw:aU 0 (m++58::w)=aU 0 (m++[58]):=by
  rw[show m++58::w=(m++[58])++w by simp];exact jS W.cuts W.head _ _
 unfold bA qZ
 rw[cq,cw]
 match hc:aU 0 (m++[58]) with
 | x::y::r=>rfl
 | []=>
  dsimp only
  unfold aZ
  rw[if_neg (by simp),aV,aV,bx sL,W.split,nR hv hq e1 e2]
  try rfl
 | [x]=>
  refine bT (cY hc) fun L R0 zz=>iV zz fun f1 f2 f3 f4=>?_
  rw[Nat.zero_add] at f2
  have t1:m++58::q=L++58::58::(R0++q):=by
   rw[show m++58::q=(m++[58])++q by simp,f1];simp
  have t2:m++58::w=L++58::58::(R0++w):=by
   rw[show m++58::w=(m++[58])++w by simp,f1];simp
  have hR:aZ (R0++q) true=aZ (R0++w) false:=by
   unfold aZ
   rw[if_neg (fun z=>Rd (List.append_eq_nil_iff.mp z).2),if_neg (fun z=>W.ne (List.append_eq_nil_iff.mp z).2)]
   rcases List.eq_nil_or_concat R0 with z | ⟨R1,y,z⟩
   ·subst z
    rw[List.nil_append,List.nil_append,bx sL,W.split]
    exact nR hv hq e1 e2 []
   ·rw[List.concat_eq_append] at z
    have:y=58:=by
     rw[z,show L++58::58::(R1++[y])=(L++58::58::R1)++[y] by simp] at f1
     have:=(List.append_inj' f1 rfl).2
     simpa using this.symm
    subst this
    rw[z,List.append_assoc,List.append_assoc]
    show bI (ag 58 (R1++58::q)) true=bI (ag 58 (R1++58::w)) false
    rw[aV,aV,bx sL,W.split,nR hv hq e1 e2]
  have d1:(m++58::q).take x=L:=by rw[t1,f2,List.take_left]
  have d2:(m++58::w).take x=L:=by rw[t2,f2,List.take_left]
  have d3:(m++58::q).drop (x+2)=R0++q:=by rw[t1,f2,<- List.drop_drop,List.drop_left];rfl
  have d4:(m++58::w).drop (x+2)=R0++w:=by rw[t2,f2,<- List.drop_drop,List.drop_left];rfl
  dsimp only
  rw[d1,d2,d3,d4,hR]
  try rfl
theorem GH {t:List Nat} (E:C6 t):JB t=(bA t).map aJ:=by
 unfold JB Q7
 cases hL:jh t with
 | none=>
  dsimp only
  have sL:=qV hL
  have hc:=fH sL 0
  rw[jk E]
  have GB:=bx sL
  unfold bA qZ
  rw[hc]
  dsimp only
  unfold aZ
  rw[if_neg E.ne,GB,dy,fI]
  cases hv:aQ t with
  | some v=>rfl
  | none=>
   dsimp only
   by_cases hq:aH t≠[]/\true=true/\([]:List (List Nat))=[]
   ·rw[if_pos hq]
    refine kK (dE hq.1) fun a b c d zz=>aB zz fun z O=>?_
    rw[z];rfl
   ·rw[if_neg hq]
 | some p=>
  obtain⟨m,q⟩:=p
  refine aB (kY hL) fun e1 sL=>?_
  have xW:(ag 58 t).getLast?=some q:=by rw[e1,aV,bx sL,List.getLast?_concat]
  dsimp only
  by_cases TK:qW q
  ·rw[if_pos TK]
   dsimp only
   have Rd:q≠[]:=fun z=>by have:=mi TK;rw[z] at this;contradiction
   have hv:=fS TK
   by_cases hz:aH q=[]
   ·rw[if_pos hz,uk xW hv hz]
    ·rfl
    ·intro L R z hR
     have:=k7 z xW
     rw[hR] at this
     injection this with this;subst this
     exact Rd rfl
   ·rw[if_neg hz]
    refine kK (dE hz) fun a b c d zz=>nk zz fun hq ha hb hc hd=>?_
    have W:=Wq ha hb hc hd
    rw[hq]
    have E':C6 (m++58::eR [a,b,c,d]):=by
     refine⟨by simp,fun z=>?_,fun z=>?_,fun z=>?_⟩
     ·have:=congrArg List.length z
      simp[eJ,hex2] at this
     ·cases m with
      | nil=>
       have:t.head?=some 58:=by rw[e1];rfl
       refine Exists.elim (E.st this) fun r hr=>?_
       rw[e1] at hr
       simp at hr
       exact absurd (by rw[hr];exact .head _) sL
      | cons x m'=>
       have hx:x=58:=by simpa using z
       have:t.head?=some 58:=by rw[e1,hx];rfl
       refine Exists.elim (E.st this) fun r hr=>?_
       rw[e1] at hr
       cases m' with
       | nil=>exact⟨_,by rw[hx];rfl⟩
       | cons y m''=>
        simp at hr
        exact⟨_,by rw[hr.1,hr.2.1];rfl⟩
     ·exfalso
      rcases List.eq_nil_or_concat (eR [a,b,c,d]) with h2 | ⟨w2,y,h2⟩
      ·exact W.ne h2
      ·have hl:=W.last
       rw[h2,List.concat_eq_append] at z hl
       rw[List.getLast?_concat] at hl
       rw[show m++58::(w2++[y])=(m++58::w2)++[y] by simp,List.getLast?_concat] at z
       exact hl z
    rw[jk E',e1,GF sL Rd hv hq (um ha hb) (um hc hd) W]
  ·rw[if_neg TK]
   dsimp only
   have hz:aH q=[]:=Classical.byContradiction fun z=>TK (iy z)
   rw[jk E,A2 E.ne xW hz]
theorem iz (t:List Nat):coreS t=(bA t).map aJ:=by
 unfold coreS
 by_cases h0:t=[]
 ·subst h0;rfl
 ·rw[if_neg h0]
  cases h1:qX t with
  | true=>
   rw[if_pos rfl]
   unfold qX at h1
   rw[Bool.and_eq_true,Bool.not_eq_true'] at h1
   refine Exists.elim ((gh _ _).mp h1.1) fun s hs=>?_
   have xW:(ag 58 t).getLast?=some []:=by
    rw[hs,aV]
    show (ag 58 s++[[]]).getLast?=_
    rw[List.getLast?_concat]
   rw[uk xW rfl rfl]
   ·rfl
   ·intro L R z hR
    have:([58,58]:List Nat).isSuffixOf t=true:=(gh _ _).mpr ⟨L,by rw[z,hR]⟩
    rw[this] at h1
    cases h1.2
  | false=>
   rw[if_neg Bool.false_ne_true]
   cases h2:mh t with
   | true=>
    rw[if_pos rfl]
    unfold mh at h2
    rw[Bool.and_eq_true,Bool.not_eq_true'] at h2
    have hh:=(TF t).mp h2.1
    obtain⟨r,hr⟩:∃ r,t=58::r:=by
     cases t with
     | nil=>contradiction
     | cons x r=>exact⟨r,by simp at hh;rw[hh]⟩
    have:bA t=none:=by
     unfold bA
     match hc:aU 0 t with
     | a::b::r=>rfl
     | []=>
      dsimp only
      unfold aZ
      rw[if_neg h0,gO (p:=[]) (by rw[hr,bM];exact .head _) rfl rfl]
     | [a]=>
      refine bT (cY hc) fun L R zz=>iV zz fun e1 e2 e3 e4=>?_
      rw[Nat.zero_add] at e2
      have ri:t.take a=L:=by rw[e1,e2,List.take_left]
      have hL:L≠[]:=fun z=>by
       rw[z] at e1
       have:=(GD t).mpr ⟨R,e1⟩
       rw[this] at h2
       cases h2.2
      obtain⟨L',YW⟩:∃ L',L=58::L':=by
       cases L with
       | nil=>exact absurd rfl hL
       | cons x L'=>
        rw[hr] at e1
        simp at e1
        exact⟨L',by rw[<- e1.1]⟩
      dsimp only
      rw[ri]
      have:aZ L false=none:=by
       unfold aZ
       rw[if_neg hL,gO (p:=[]) (by rw[YW,bM];exact .head _) rfl rfl]
      rw[this]
    rw[this];rfl
   | false=>
    rw[if_neg Bool.false_ne_true]
    by_cases h3:t=[58,58]
    ·subst h3
     rw[if_pos rfl]
     decide +kernel
    ·rw[if_neg h3]
     exact GH (JG h0 h1 h2 h3)
noncomputable def cG:Nat->List Nat->List Nat
 | _,[]=>[]
 | n,x::r=>if x=37 then n::cG (n+1) r else cG (n+1) r
theorem nT:cG n (x::r)=(if x=37 then n::cG (n+1) r else cG (n+1) r):=rfl
noncomputable def bV (t:List Nat):Option (List Nat):=match cG 0 t with
 | [a]=>bA (t.take a)
 | _=>bA t
set_option tactic.hygienic true in
theorem gi:∀ {t:List Nat}{n a:Nat}{rest:List Nat},cG n t=a::rest->∃ L R,t=L++37::R/\a=n+L.length/\37∉L/\rest=cG (a+1) R
 | x::r,n,a,rest,h=>by
  rw[nT] at h
  split at h
  ·rename_i q
   injection h with h zq;subst h zq
   exact⟨[],r,by rw[q];rfl,rfl,by simp,rfl⟩
  ·rename_i q
   refine bT (gi h) fun L R zz=>iV zz fun e1 e2 e3 e4=>?_
   refine⟨x::L,R,by rw[e1];rfl,by rw[e2,List.length_cons];lia,fun z=>?_,e4⟩
   rcases List.mem_cons.mp z with z | z
   ·exact q z.symm
   ·exact e3 z
set_option tactic.hygienic true in
theorem ro:∀ {t:List Nat}{n:Nat},cG n t=[]->37∉t:=by
 intro z0
 induction z0 with
 | nil=>
  intro _ _
  simp
 | cons x r ih=>
  intro n h
  rw[nT] at h
  split at h
  ·contradiction
  ·rename_i q
   intro z
   rcases List.mem_cons.mp z with z | z
   ·exact q z.symm
   ·exact ih h z
theorem JJ {t:List Nat} (h:37∉t):∀ n,cG n t=[]:=by
 induction t with
 | nil=>intro n;rfl
 | cons x r ih=>
  intro n
  rw[nT,if_neg fun z=>h (by rw[z];exact .head _)]
  exact ih (fun z=>h (.tail _ z)) _
theorem xX {t:List Nat}{c:Nat} (hc:c∈t) (h1:c≠46) (h2:aM c=false):aH t=[]:=by
 rw[dX,if_neg]
 rintro ⟨_,h⟩
 refine Exists.elim (jj h1 hc) fun p zz=>aB zz fun hp VQ=>?_
 have:=(h p hp).1
 rw[List.all_eq_true] at this
 rw[this c VQ] at h2
 contradiction
theorem NW {t:List Nat} (h:37∈t):bA t=none:=by
 have bad:∀ {s:List Nat} (e:Bool),37∈s->aZ s e=none:=fun {s} e hs=>by
  unfold aZ
  rw[if_neg (fun z=>by rw[z] at hs;contradiction)]
  refine Exists.elim (jj (c:=58) (by decide) hs) fun p zz=>aB zz fun hp VQ=>?_
  exact gO hp (rn (c:=37) rfl VQ) (xX VQ (by decide) rfl)
 unfold bA
 match hc:aU 0 t with
 | a::b::r=>rfl
 | []=>dsimp only;rw[bad true h]
 | [a]=>
  refine bT (cY hc) fun L R zz=>iV zz fun e1 e2 e3 e4=>?_
  rw[Nat.zero_add] at e2
  have ri:t.take a=L:=by rw[e1,e2,List.take_left]
  have rj:t.drop (a+2)=R:=by rw[e1,e2,<- List.drop_drop,List.drop_left];rfl
  dsimp only
  rw[ri,rj]
  rw[e1] at h
  rcases List.mem_append.mp h with h | h
  ·rw[bad false h]
  ·have:37∈R:=by simpa using h
   rw[bad true this]
   cases aZ L false<;>rfl
theorem xY (t:List Nat):vQ t=(bV t).map aJ:=by
 unfold vQ bV
 match hs:cG 0 t with
 | []=>
  rw[bx (ro hs)]
  exact iz t
 | [a]=>
  refine bT (gi hs) fun L R zz=>iV zz fun e1 e2 e3 e4=>?_
  have hR:=ro e4.symm
  rw[Nat.zero_add] at e2
  have ri:t.take a=L:=by rw[e1,e2,List.take_left]
  dsimp only
  rw[ri,e1,aV,bx e3,bx hR]
  exact iz L
 | a::b::r=>
  refine bT (gi hs) fun L R zz=>iV zz fun e1 e2 e3 e4=>?_
  refine bT (gi e4.symm) fun L' R' zz=>iV zz fun f1 f2 f3 f4=>?_
  dsimp only
  rw[NW (by rw[e1];simp),e1,f1,aV,aV,bx e3,bx f3]
  refine bT (bR (c:=37) R') fun p ps e=>?_
  rw[e]
  rfl
theorem vS {c:Nat}:∀ t:List Nat,a9 [c] (ag c t)=t:=by
 intro z0
 induction z0 with
 | nil=>exact  rfl
 | cons x r ih=>
  have ih:=ih
  refine bT (bR (c:=c) r) fun p ps e=>?_
  rw[aS]
  rw[e] at ih ⊢
  by_cases h:x=c
  ·subst h
   rw[if_pos rfl,aX]
   rw[ih];rfl
  ·rw[if_neg h]
   dsimp only
   cases ps with
   | nil=>rw[cg] at ih ⊢;rw[ih]
   | cons q qs=>
    rw[aX] at ih ⊢
    rw[<- ih];simp
structure GJ (t:List Nat):Prop where
 Wr:bO (aH t)=t
 read:bA t=none
 scp:bV t=none
theorem k8 {t:List Nat} (h:aH t≠[]):GJ t:=by
 have hl:=iy h
 have A3:∀ c∈t,c=46∨aM c=true:=fun c hc=>by
  by_cases q:c=46
  ·exact .inl q
  ·right
   refine Classical.byContradiction fun z=>h (xX hc q (by simpa using z))
 have sL:58∉t:=fun z=>by rcases A3 58 z with e | e<;>contradiction
 have YX:37∉t:=fun z=>by rcases A3 37 z with e | e<;>contradiction
 have hr:bA t=none:=by
  unfold bA
  rw[fH sL 0]
  dsimp only
  unfold aZ
  have h0:t≠[]:=fun z=>by have:=mi hl;rw[z] at this;contradiction
  rw[if_neg h0,bx sL,fI,fS hl]
  dsimp only
  rw[if_pos ⟨h,rfl,rfl⟩]
  refine kK (dE h) fun a b c d zz=>aB zz fun z O=>?_
  rw[z];rfl
 refine⟨?_,hr,?_⟩
 ·have hq:=dX (t:=t)
  by_cases z:(ag 46 t).length=4/\∀ q∈ag 46 t,je q
  ·rw[if_pos z] at hq
   rw[hq]
   unfold bO
   rw[List.map_map]
   have:(ag 46 t).map ((fun n:Nat=>bG n)∘digitsVal)=ag 46 t:=by
    have:∀ l:List (List Nat),(∀ q∈l,je q)->l.map ((fun n:Nat=>bG n)∘digitsVal)=l:=by
     intro l
     induction l with
     | nil=>intro _;rfl
     | cons p r ih=>
      intro hh
      rw[List.map_cons,ih fun q hq=>hh q (.tail _ hq)]
      congr 1
      exact (hh p (.head _)).2.1
    exact this _ z.2
   rw[this,vS]
  ·rw[if_neg z] at hq
   exact absurd hq h
 ·unfold bV
  rw[JJ YX 0]
  exact hr
set_option tactic.hygienic true in
theorem GK:∀ {ps:List (List Nat)}{e:Bool}{g:List Nat},bI ps e=some g->∀ x∈g,x<65536:=by
 intro z0
 induction z0 with
 | nil=>
  intro e g h x hx
  injection h with h;subst h;contradiction
 | cons p r ih=>
  intro e g h x hx
  rw[fI] at h
  cases hv:aQ p with
  | some v=>
   rw[hv] at h
   cases hq:bI r e with
   | none=>rw[hq] at h;contradiction
   | some g'=>
    rw[hq] at h;injection h with h;subst h
    rcases List.mem_cons.mp hx with z | z
    ·rw[z];exact Gk hv
    ·exact ih hq x z
  | none=>
   rw[hv] at h
   dsimp only at h
   split at h
   ·rename_i q
    refine kK (dE q.1) fun a b c d zz=>nk zz fun z ha hb hc hd=>?_
    rw[z] at h
    injection h with h;subst h
    simp only[Gn,List.mem_cons,List.not_mem_nil,or_false] at hx
    rcases hx with rfl | rfl<;>lia
   ·contradiction
theorem k9 {t:List Nat}{e:Bool}{g:List Nat} (h:aZ t e=some g):∀ x∈g,x<65536:=by
 unfold aZ at h
 split at h
 ·injection h with h;subst h;intro x hx;contradiction
 ·exact GK h
theorem iA {t g:List Nat} (h:bA t=some g):g.length=8/\∀ x∈g,x<65536:=by
 unfold bA at h
 cases hc:aU 0 t with
 | nil=>
  rw[hc] at h
  dsimp only at h
  cases q:aZ t true with
  | none=>rw[q] at h;contradiction
  | some k=>
   rw[q] at h
   dsimp only at h
   by_cases h8:k.length=8
   ·rw[if_pos h8] at h;injection h with h;subst h;exact⟨h8,k9 q⟩
   ·rw[if_neg h8] at h;contradiction
 | cons a r=>
  rw[hc] at h
  cases r with
  | cons=>contradiction
  | nil=>
   dsimp only at h
   cases q1:aZ (t.take a) false with
   | none=>rw[q1] at h;contradiction
   | some l=>
    cases q2:aZ (t.drop (a+2)) true with
    | none=>rw[q1,q2] at h;contradiction
    | some r=>
     rw[q1,q2] at h
     dsimp only at h
     by_cases h7:l.length+r.length<=7
     ·rw[if_pos h7] at h
      injection h with h
      subst h
      refine⟨by simp only[List.length_append,List.length_replicate];lia,fun x hx=>?_⟩
      rcases List.mem_append.mp hx with hx | hx
      ·rcases List.mem_append.mp hx with hx | hx
       ·exact k9 q1 x hx
       ·rw[List.eq_of_mem_replicate hx];decide
      ·exact k9 q2 x hx
     ·rw[if_neg h7] at h;contradiction
theorem uo {t g:List Nat} (h:bV t=some g):g.length=8/\∀ x∈g,x<65536:=by
 revert h
 unfold bV
 cases cG 0 t with
 | nil=>exact iA
 | cons a r=>cases r<;>exact iA
noncomputable def gx:List Nat:=[48,49,50,51,52,53,54,55,56,57,97,98,99,100,101,102,65,66,67,68,69,70]
theorem C7 {n:Nat} (h:n<16):gx.getD n 0=dC n:=by
 have:∀ n:Fin 16,gx.getD n.1 0=dC n.1:=by decide +kernel
 exact this ⟨n,h⟩
noncomputable def b6 (v:Nat):List Nat:=dx gx 1 4 v []
noncomputable def hex4 (v:Nat):List Nat:=hex2 (v / 256)++hex2 (v % 256)
noncomputable def nU (s:List Nat):List Nat:=if (s.dropWhile (· == 48)).isEmpty then [48] else s.dropWhile (· == 48)
theorem GL {sg:List Nat}:∀ (k n:Nat) (A B:List Nat),dx sg 0 k n (A++B)=dx sg 0 k n A++B:=by
 intro z0
 induction z0 with
 | zero=>
  exact fun O O O=>rfl
 | succ k ih=>
  intro n A B
  rw[dK,dK]
  by_cases h:0<n
  ·rw[if_pos (.inl h),if_pos (.inl h)];exact ih _ (_::A) B
  ·rw[if_neg (fun q=>q.elim h (Nat.not_lt_zero _)),if_neg (fun q=>q.elim h (Nat.not_lt_zero _))]
theorem GN {sg:List Nat}:∀ (k n x:Nat) (A:List Nat),dx sg 1 k n (x::A)=dx sg 0 k n (x::A):=by
 intro z0
 induction z0 with
 | zero=>
  exact fun O O O=>rfl
 | succ k ih=>
  intro n x A
  rw[dK,dK]
  by_cases h:0<n
  ·rw[if_pos (.inl h),if_pos (.inl h)];exact ih _ _ (x::A)
  ·rw[if_neg (fun q=>q.elim h (fun z=>absurd z (Nat.not_lt.mpr (Nat.le_add_left 1 _)))),if_neg (fun q=>q.elim h (Nat.not_lt_zero _))]
noncomputable def TN (v:Nat):Bool:=decide (nU (hex4 v)=b6 v)&&decide (aQ (b6 v)=some v)&&decide (1<=(b6 v).length/\(b6 v).length<=4)
noncomputable def XM (h:Nat):Bool:=decide (h=0)||(decide ((hex2 h).dropWhile (· == 48)=dx gx 0 2 h [])&&decide (cX (dx gx 0 2 h []) 0=some h)&&decide (1<=(dx gx 0 2 h []).length/\(dx gx 0 2 h []).length<=2))
theorem Rf:(List.range 256).all TN=true:=by kernel_rfl
theorem TP:(List.range 256).all XM=true:=by kernel_rfl
theorem A4:∀ {a b:List Nat}{v w:Nat},cX a v=some w->cX (a++b) v=cX b w:=by
 intro z0
 induction z0 with
 | nil=>
  intro b v w h
  injection h with h;subst h;rfl
 | cons c a ih=>
  intro b v w h
  rw[List.cons_append,dY]
  rw[dY] at h
  cases q:cj c with
  | none=>rw[q] at h;contradiction
  | some d=>rw[q] at h;exact ih h
theorem xZ {h l:Nat} (hl:l<256):cX (hex2 l) h=some (h*256+l):=by
 show cX [dC (l / 16),dC (l % 16)] h=_
 rw[fD (jl (Nat.div_lt_of_lt_mul (show l<16*16 from hl))).1,fD (jl (Nat.mod_lt l (show 0<16 by decide))).1,nF]
 congr 1;lia
theorem JK {v:Nat} (h:256<=v):b6 v=dx gx 0 2 (v / 256) []++hex2 (v % 256):=by
 unfold b6
 rw[dK,if_pos (.inr Nat.zero_lt_one),C7 (Nat.mod_lt v (show 0<16 by decide)),dK,if_pos (.inl (Nat.div_pos (Nat.le_trans (by decide) h) (by decide))),C7 (Nat.mod_lt _ (show 0<16 by decide)),GN,Nat.div_div_eq_div_mul]
 rw[show ([dC (v / 16 % 16),dC (v % 16)]:List Nat)=[]++hex2 (v % 256) from by
  show _=[dC (v % 256 / 16),dC (v % 256 % 16)]
  rw[show v % 256 / 16=v / 16 % 16 from Nat.mod_mul_right_div_self v 16 16,Nat.mod_mod_of_dvd v (by decide)]]
 exact GL 2 _ [] _
theorem rq {v:Nat} (h:v<65536):nU (hex4 v)=b6 v/\aQ (b6 v)=some v/\1<=(b6 v).length/\(b6 v).length<=4:=by
 by_cases hv:v<256
 ·have:=List.all_eq_true.mp Rf v (List.mem_range.mpr hv)
  unfold TN at this
  rw[Bool.and_eq_true,Bool.and_eq_true] at this
  exact⟨of_decide_eq_true this.1.1,of_decide_eq_true this.1.2,of_decide_eq_true this.2⟩
 ·have hd:v / 256<256:=Nat.div_lt_of_lt_mul h
  have h0:v / 256≠0:=fun e=>hv (by rw[Nat.div_eq_zero_iff] at e;exact e.resolve_left (by decide))
  have:=List.all_eq_true.mp TP (v / 256) (List.mem_range.mpr hd)
  unfold XM at this
  rw[decide_eq_false h0,Bool.false_or,Bool.and_eq_true,Bool.and_eq_true] at this
  refine aB this fun mj e3=>?_;obtain⟨e1,e2⟩:=mj
  replace e1:=of_decide_eq_true e1
  replace e3:=of_decide_eq_true e3
  have aq:(dx gx 0 2 (v / 256) []).isEmpty=false:=by
   cases q:dx gx 0 2 (v / 256) [] with
   | nil=>rw[q] at e3;exact absurd e3.1 (by decide)
   | cons _ _=>rfl
  rw[JK (Nat.not_lt.mp hv)]
  generalize dx gx 0 2 (v / 256) []=W at *
  have hlen:(W++hex2 (v % 256)).length=W.length+2:=List.length_append
  refine⟨?_,?_,?_,?_⟩
  ·unfold nU hex4
   rw[List.dropWhile_append,e1,aq]
   cases W with
   | nil=>contradiction
   | cons _ _=>rfl
  ·unfold aQ
   rw[if_neg (by rw[hlen];lia),A4 (of_decide_eq_true e2),xZ (Nat.mod_lt v (by decide)),Nat.mul_comm,Nat.div_add_mod]
  ·rw[hlen];exact Nat.le_add_left _ _
  ·rw[hlen];exact Nat.add_le_add_right e3.2 2
theorem lg {v:Nat} (h:v<65536):aQ (b6 v)=some v:=(rq h).2.1
def hexChar (c:Nat):Prop:=(48<=c/\c<=57)∨(97<=c/\c<=102)∨(65<=c/\c<=70)
theorem rt {v:Nat}:∀ c∈b6 v,hexChar c:=fun c hc=>by
 rcases ub (sg:=gx) (by decide) 4 v [] c hc with h | h
 ·contradiction
 ·have:∀ c∈gx.take 16,(48<=c/\c<=57)∨(97<=c/\c<=102):=by decide
  rcases this c h with q | q
  ·exact .inl q
  ·exact .inr (.inl q)
theorem ya {v:Nat} (h:v<65536):1<=(b6 v).length/\(b6 v).length<=4:=(rq h).2.2
theorem NX {v:Nat} (h:v<65536):b6 v≠[]:=fun e=>by
 have:=(ya h).1;rw[e] at this;contradiction
theorem A5 {v:Nat} (h:v<65536):nU (hex4 v)=b6 v:=(rq h).1
noncomputable def ws (g:List Nat):List (List Nat):=g.map b6
noncomputable def e9 (g:List Nat) (z s:Nat):Bool:=decide ((g.drop s).take z=List.replicate z 0)
noncomputable def rA (g:List Nat) (z:Nat):Option Nat:=(List.range' 0 (9 - z)).find? (e9 g z)
noncomputable def nV (g:List Nat):Nat->Option (Nat × Nat)
 | 0=>none
 | k+1=>if k=0 then none else match rA g (k+1) with
  | some s=>some (s,k+1)
  | none=>nV g k
theorem vT {g:List Nat}:nV g (k+1)=(if k=0 then none else match rA g (k+1) with
  | some s=>some (s,k+1)
  | none=>nV g k):=rfl
noncomputable def fT (g:List Nat) (s z:Nat):List Nat:=if s=0/\z=6 then [58,58]++bO (aJ (g.drop 6)) else if s=0/\z=5/\g.getD 5 0=65535 then [58,58,102,102,102,102,58]++bO (aJ (g.drop 6)) else
 a9 [58] ((ws g).take s)++[58,58]++a9 [58] ((ws g).drop (s+z))
noncomputable def cQ (g:List Nat):List Nat:=match nV g 8 with
 | some (s,z)=>fT g s z
 | none=>a9 [58] (ws g)
theorem JL:∀ a b:List Nat,a.length=b.length->kM (vl a) (vl b)=.ok (decide (a=b))
 | [],[],_=>rfl
 | x::a,y::b,h=>by
  show kM (vi x::vl a) (vi y::vl b)=_
  rw[lQ,PL,R.bN,JL a b (by simpa using h),R.bN]
  congr 1
  by_cases h1:x=y
  ·subst h1;simp
  ·have:¬ (x:Int)=(y:Int):=by lia
   simp[h1,this]
theorem JM (a b:List Nat):V.eq (.list (vl a)) (.list (vl b))=.ok (decide (a=b)):=by
 rw[Q3]
 by_cases h:a.length=b.length
 ·rw[if_pos (by rw[List.length_map,List.length_map];exact h),JL a b h]
 ·rw[if_neg (by rw[List.length_map,List.length_map];exact h),decide_eq_false fun e=>h (by rw[e])]
theorem d8:∀ {l:List (List Nat)}{k:Nat},(∀ w∈l,w.length<=k)->bf l<=k*l.length:=by
 intro z0
 induction z0 with
 | nil=>
  exact fun {k} _=>Nat.zero_le _
 | cons w r ih=>
  intro k h
  have h1:=h w (.head _)
  have h2:=ih fun x hx=>h x (.tail _ hx)
  rw[bj,List.length_cons,Nat.mul_succ];lia
theorem ml:∀ l:List (List Nat),(a9 [58] l).length<=bf l+l.length
 | []=>Nat.le_refl _
 | [x]=>by simp[de,cg,aX,cM,bj]
 | x::y::r=>by
  have:=ml (y::r)
  rw[aX]<;>simp[cM,bj] at this ⊢;lia
theorem JN (g:List Nat) (s z:Nat):((vl g).drop s).take (s+z - s)=vl ((g.drop s).take z):=by
 show ((g.map vi).drop s).take _=((g.drop s).take z).map vi
 rw[Nat.add_sub_cancel_left,List.map_take,List.map_drop]
theorem JP (z:Nat):(List.replicate z ([V.int 0]:List V)).flatten=vl (List.replicate z 0):=by
 induction z with
 | zero=>rfl
 | succ k ih=>rw[List.replicate_succ,List.flatten_cons,ih,List.replicate_succ];rfl
structure ng (g:List Nat):Prop where
 len:g.length=8
 lt:∀ x∈g,x<65536
theorem ng.tail {g:List Nat} (G:ng g):∃ a b,g.drop 6=[a,b]/\a<65536/\b<65536:=by
 obtain⟨h1,h2⟩:=G
 match g,h1,h2 with
 | [_,_,_,_,_,_,a,b],_,h2=>exact⟨a,b,rfl,h2 a (by simp),h2 b (by simp)⟩
theorem ng.rB {g:List Nat} (G:ng g):∀ w∈ws g,w.length<=4:=fun w hw=>by
 refine Exists.elim (List.mem_map.mp hw) fun x zz=>aB zz fun hx av=>?_;clear zz;subst av
 exact (ya (G.lt x hx)).2
theorem mn {a b c d:Nat} (ha:a<256) (hb:b<256) (hc:c<256) (hd:d<256):(bO [a,b,c,d]).length<=15:=by
 have h:=fun v (hv:v<256)=>qM (n:=v) (by lia)
 have h1:=h a ha
 have h2:=h b hb
 have h3:=h c hc
 have h4:=h d hd
 simp only[bO,List.map_cons,List.map_nil,de,cg,aX,List.length_append,List.length_cons,List.length_nil]
 lia
theorem E.const {D:Fn->List V->R V}{J:Ρ}{v:V}:ak D (.const v) J=.ok v:=rfl
theorem C8 {W:List (List Nat)} (h:∀ w∈W,w.length<=4) (hl:W.length<=8):bq .join [V.str [58],V.list (W.map V.str)]=.ok (.str (a9 [58] W))/\(a9 [58] W).length<=40:=by
 have t:bf W<=32:=Nat.le_trans (d8 h) (Nat.mul_le_mul_left 4 hl)
 refine⟨?_,Nat.le_trans (ml W) (Nat.add_le_add t hl)⟩
 show (match strs? (W.map V.str) with
  | some ys=>R.guard (decide (bf ys+([58]:List Nat).length*ys.length<=lim)) (R.ok (V.str (a9 [58] ys)))
  | none=>R.stuck)=_
 rw[strs_map]
 exact e8 (Nat.le_trans (Nat.add_le_add t (Nat.mul_le_mul_left 1 hl)) (show 32+1*8<=1000000 by decide)) rfl
theorem Ws {z:Nat} (hz:z<=8):sN .mul (V.list [V.int 0]) (vi z)=.ok (.list (vl (List.replicate z 0))):=by
 show R.guard (decide (([V.int 0]:List V).length=1)&&decide ((-1000:Int)<=(z:Int))&&decide ((z:Int)<=1000)) (R.ok (V.list (List.replicate (z:Int).toNat [V.int 0]).flatten))=_
 rw[decide_eq_true (Int.le_trans (by decide) (Int.natCast_nonneg z)),decide_eq_true (show (z:Int)<=1000 from Int.ofNat_le.mpr (Nat.le_trans hz (by decide))),Int.toNat_natCast,JP]
 rfl
theorem yb {n:Nat}{g:List Nat} (G:ng g) {x4:Option V}{z:Nat} (hz:z<=8) (s:Nat) :
  aj (ae defs (n+1)) ik [some (.list (vl g)),some (.list ((ws g).map V.str)),some (vi z),some (vi s),x4]=if e9 g z s=true then .ret (.str (fT g s z)) else .next [some (.list (vl g)),some (.list ((ws g).map V.str)),some (vi z),some (vi s),x4]:=by
 have sum:ak (ae defs (n+1)) (.bin .add (.loc 3) (.loc 2)) [some (.list (vl g)),some (.list ((ws g).map V.str)),some (vi z),some (vi s),x4]=.ok (vi (s+z)):=E.bin (x:=vi s) (y:=vi z) rfl rfl rfl
 have uq:=E.cmp (op:=.eq) (E.slice (a:=.loc 0) (lo:=.loc 3) (x:=.list (vl g)) (l:=vi s) rfl rfl sum rfl ((Jt (vl g) s (s+z) (Nat.le_add_right _ _)).trans (by rw[JN])))
  (E.bin (op:=.mul) (a:=.list (.cons (.const (.int 0)) .nil)) (b:=.loc 2) (x:=.list [.int 0]) (y:=vi z) rfl rfl (Ws hz)) (by rw[vG,JM];rfl:pE .eq (V.list (vl ((g.drop s).take z))) (V.list (vl (List.replicate z 0)))=.ok (.bool (e9 g z s)))
 by_cases hq:e9 g z s=true
 ·rw[if_pos hq]
  refine S.last.trans ((S.aE uq hq).trans ?_)
  refine bT G.tail fun p q zz=>b5 zz fun ht hp YY=>?_
  have Wt:=(fG (vl g) 6).trans (by rw[<- List.map_drop,ht]:_=.ok (.list (vl [p,q])))
  have TQ:=vI (n:=n) (aJ [p,q]) (show (4:Nat)<=100 by decide) fun x hx=>Nat.lt_trans (cW [p,q] (fun y hy=>by
   simp only[List.mem_cons,List.not_mem_nil,or_false] at hy
   rcases hy with rfl | rfl<;>assumption) x hx) (by decide)
  have SW:(bO (aJ [p,q])).length<=15:=mn (Nat.div_lt_of_lt_mul hp) (Nat.mod_lt _ (by decide)) (Nat.div_lt_of_lt_mul YY) (Nat.mod_lt _ (by decide))
  have tail:=fun (l:List Nat) (hl:l.length<=7)=>E.bin (op:=.add) (a:=.const (.str l)) (E.const (v:=.str l) (J:=[some (.list (vl g)),some (.list ((ws g).map V.str)),some (vi z),some (vi s),x4])) (E.call (E.one (E.call (E.one (E.slice (a:=.loc 0) (lo:=.const (.int 6)) (hi:=.const .none) rfl rfl rfl rfl Wt)) (vJ (n:=n) p q))) TQ) (adds (Nat.le_trans (Nat.add_le_add hl SW) (by decide)))
  have c1:=C.and (E.cmp (op:=.eq) (a:=.loc 3) (b:=.const (.int 0)) (J:=[some (.list (vl g)),some (.list ((ws g).map V.str)),some (vi z),some (vi s),x4]) (D:=ae defs (n+1)) (x:=vi s) (y:=vi 0) rfl rfl (bZ (e7 s 0))) (E.cmp (op:=.eq) (a:=.loc 2) (b:=.const (.int 6)) (x:=vi z) (y:=vi 6) rfl rfl (bZ (e7 z 6)))
  have i5:ib (.list (vl g)) (.int 5)=.ok (vi (g.getD 5 0)):=ej (by
   rw[List.getElem?_map,List.getD_eq_getElem?_getD,List.getElem?_eq_getElem (by rw[G.len];decide)];rfl)
  have c2:=C.and (E.cmp (op:=.eq) (a:=.loc 3) (b:=.const (.int 0)) (J:=[some (.list (vl g)),some (.list ((ws g).map V.str)),some (vi z),some (vi s),x4]) (D:=ae defs (n+1)) (x:=vi s) (y:=vi 0) rfl rfl (bZ (e7 s 0))) (C.and (E.cmp (op:=.eq) (a:=.loc 2) (b:=.const (.int 5)) (x:=vi z) (y:=vi 5) rfl rfl (bZ (e7 z 5))) (E.cmp (op:=.eq) (a:=.idx (.loc 0) (.const (.int 5))) (b:=.const (.int 65535)) (y:=vi 65535) (E.idx (y:=.int 5) rfl rfl rfl i5) rfl (bZ (e7 _ 65535))))
  rw[<- Bool.decide_and] at c1
  rw[<- Bool.decide_and,<- Bool.decide_and] at c2
  have wl:=G.rB
  have yc:(ws g).length=8:=by rw[ws,List.length_map,G.len]
  have j1:=C8 (W:=(ws g).take s) (fun w hw=>wl w (List.mem_of_mem_take hw)) (by rw[List.length_take,yc];exact Nat.min_le_right _ _)
  have j2:=C8 (W:=(ws g).drop (s+z)) (fun w hw=>wl w (List.mem_of_mem_drop hw)) (by rw[List.length_drop,yc];exact Nat.sub_le _ _)
  unfold fT
  rw[ht]
  by_cases h6:s=0/\z=6
  ·rw[if_pos h6]
   exact S.end ((S.aE c1 (decide_eq_true h6)).trans (S.end (S.ret (tail [58,58] (by decide)))))
  ·rw[if_neg h6]
   refine S.seq (S.skip (c1.trans (by rw[decide_eq_false h6]))) ?_
   by_cases h5:s=0/\z=5/\g.getD 5 0=65535
   ·rw[if_pos h5]
    exact S.end ((S.aE c2 (decide_eq_true h5)).trans (S.end (S.ret (tail [58,58,102,102,102,102,58] (by decide)))))
   ·rw[if_neg h5]
    refine S.seq (S.skip (c2.trans (by rw[decide_eq_false h5]))) (S.end (S.ret (E.bin (E.bin (E.aG (x:=.str [58]) rfl rfl (E.one (E.slice (x:=.list ((ws g).map V.str)) (l:=.none) (h:=vi s) rfl rfl rfl rfl ((fF _ s).trans (by rw[<- List.map_take])))) j1.1) (E.const (v:=.str [58,58])) (adds (Nat.le_trans (Nat.add_le_add j1.2 (Nat.le_refl 2)) (by decide))))
     (E.aG (x:=.str [58]) rfl rfl (E.one (E.slice (x:=.list ((ws g).map V.str)) (h:=.none) rfl sum rfl rfl ((fG _ (s+z)).trans (by rw[<- List.map_drop])))) j2.1) (adds (by rw[List.length_append];exact Nat.le_trans (Nat.add_le_add (Nat.add_le_add j1.2 (Nat.le_refl 2)) j2.2) (by decide))))))
 ·rw[if_neg hq]
  exact S.last.trans (S.skip (uq.trans (by rw[Bool.eq_false_iff.mpr hq])))
theorem A6 {n:Nat}{g:List Nat} (G:ng g) {x4:Option V}{z:Nat} (hz:z<=8):∀ (m s:Nat) (o:Option V),
  match (List.range' s m).find? (e9 g z) with
  | some st=>dg 3 (aj (ae defs (n+1)) ik) ((List.range' s m).map vi) [some (.list (vl g)),some (.list ((ws g).map V.str)),some (vi z),o,x4]=.ret (.str (fT g st z))
  | none=>∃ o',dg 3 (aj (ae defs (n+1)) ik) ((List.range' s m).map vi) [some (.list (vl g)),some (.list ((ws g).map V.str)),some (vi z),o,x4]=.next [some (.list (vl g)),some (.list ((ws g).map V.str)),some (vi z),o',x4]:=by
 intro z0
 induction z0 with
 | zero=>
  exact fun s o=>⟨o,rfl⟩
 | succ m ih=>
  intro s o
  have hb:=yb (n:=n) G (x4:=x4) hz s
  rw[List.range'_succ,List.find?_cons]
  cases hq:e9 g z s with
  | true=>rw[if_pos hq] at hb;exact F.stop hb
  | false=>
   rw[if_neg (ne_true_of_eq_false hq)] at hb
   have ih:=ih (s+1) (some (vi s))
   revert ih
   cases (List.range' (s+1) m).find? (e9 g z) with
   | some st=>exact fun ih=>F.cons hb ih
   | none=>exact fun ⟨o',e⟩=>⟨o',F.cons hb e⟩
theorem W.Wu {D:Fn->List V->R V}{J:Ρ}{c:PE}{b:aA}{n:Nat}{v:V} (hc:(ak D c J).bind V.truth=.ok true) (h:aj D b J=.ret v):dk (fun J=>(ak D c J).bind V.truth) (aj D b) (n+1) J=.ret v:=by
 rw[DP,hc,R.QZ,if_pos rfl,h];rfl
theorem oX {n:Nat}{g:List Nat} (G:ng g) {x4:Option V}:∀ (k f:Nat) (o:Option V),k<=8->
  match nV g k with
  | some (s,z)=>dk (fun J=>(ak (ae defs (n+1)) (.cmp .gt (.loc 2) (.const (.int 1))) J).bind V.truth) (aj (ae defs (n+1)) kQ) (f+k+1) [some (.list (vl g)),some (.list ((ws g).map V.str)),some (vi k),o,x4]=.ret (.str (fT g s z))
  | none=>∃ a b,dk (fun J=>(ak (ae defs (n+1)) (.cmp .gt (.loc 2) (.const (.int 1))) J).bind V.truth) (aj (ae defs (n+1)) kQ) (f+k+1) [some (.list (vl g)),some (.list ((ws g).map V.str)),some (vi k),o,x4]=.next [some (.list (vl g)),some (.list ((ws g).map V.str)),a,b,x4]
 | 0,f,o,_=>⟨some (vi 0),o,W.stop (by kernel_rfl)⟩
 | k+1,f,o,hk=>by
  rw[vT]
  by_cases h0:k=0
  ·subst h0
   exact⟨some (vi 1),o,W.stop (by kernel_rfl)⟩
  ·rw[if_neg h0]
   have hc:=A6 (n:=n) G (x4:=x4) (z:=k+1) hk (9 - (k+1)) 0 o
   have uq:=C.ok (E.cmp (D:=ae defs (n+1)) (J:=[some (.list (vl g)),some (.list ((ws g).map V.str)),some (vi (k+1)),o,x4]) (op:=.gt) (a:=.loc 2) (b:=.const (.int 1)) (x:=vi (k+1)) (y:=vi 1) rfl rfl (bZ ((fP 1 (k+1)).trans (decide_eq_true (Nat.succ_lt_succ (Nat.pos_of_ne_zero h0))))))
   have A7:(9:Int) - ((k+1:Nat):Int)=((9 - (k+1):Nat):Int):=(Int.ofNat_sub (Nat.le_succ_of_le hk)).symm
   have TR:gG (ae defs (n+1)) (.sM (.const (.int 0)) (.bin .sub (.const (.int 9)) (.loc 2)) 1) [some (.list (vl g)),some (.list ((ws g).map V.str)),some (vi (k+1)),o,x4]=.ok ((List.range' 0 (9 - (k+1))).map vi):=
    Gw (k:=((9 - (k+1):Nat):Int)) (E.bin (x:=.int 9) (y:=vi (k+1)) rfl rfl (qJ A7)) (show 9 - (k+1)<=1000000 from Nat.le_trans (Nat.sub_le 9 (k+1)) (by decide))
   have hlen:((List.range' 0 (9 - (k+1))).map vi).length<=lim:=by rw[List.length_map,List.length_range'];exact Nat.le_trans (Nat.sub_le 9 (k+1)) (by decide)
   unfold rA
   revert hc
   cases (List.range' 0 (9 - (k+1))).find? (e9 g (k+1)) with
   | some st=>exact fun hc=>W.Wu uq (S.end (S.for TR hlen hc))
   | none=>
    rintro ⟨o',hc⟩
    have ih:=oX (n:=n) G (x4:=x4) k f o' (Nat.le_of_succ_le hk)
    have hb:=S.seq (S.for TR hlen hc) (S.one (S.assign (i:=2) (e:=.bin .sub (.loc 2) (.const (.int 1))) (v:=vi k) (E.bin (x:=vi (k+1)) (y:=vi 1) rfl rfl (qJ (Int.add_sub_cancel (k:Int) 1)))))
    dsimp only
    revert ih
    cases nV g k with
    | some q=>exact fun ih=>W.turn uq hb ih
    | none=>exact fun ⟨a,b,e⟩=>⟨a,b,W.turn uq hb e⟩
theorem p6 {n:Nat}{g:List Nat} (G:ng g):ae defs (n+2) .gq [.list (vl g)]=.ok (.str (cQ g)):=by
 show (aj (ae defs (n+1)) xv [some (.list (vl g)),none,none,none,none]).value=_
 have hm:(vl g).map (fun x=>match x with | .int i=>.str (b6 i.toNat) | _=>.none)=(ws g).map V.str:=by unfold ws;rw[List.map_map,List.map_map];rfl
 have xO:ak (ae defs (n+1)) (.comp (.call .iJ (.cons (.loc 4) (.cons (.const (.int 1)) (.cons (.glob cN) .nil)))) 4 (.val (.loc 0)) (.const (.bool true))) [some (.list (vl g)),none,none,none,none]=.ok (.list ((ws g).map V.str)):=by
  refine hm ▸ E.map (f:=fun x=>match x with | .int i=>.str (b6 i.toNat) | _=>.none) rfl (by rw[List.length_map,G.len];decide) fun x hx=>?_
  refine Exists.elim (List.mem_map.mp hx) fun y zz=>aB zz fun hy av=>?_;clear zz;subst av
  exact E.call (vs:=[vi y,vi 1,cN]) rfl (AI (m:=n) (sg:=gx) y 1 4 (by decide) (G.lt y hy) (by decide) (by decide))
 have h:=oX (n:=n) G (x4:=none) 8 99991 none (Nat.le_refl _)
 have TS:(ws g).length=8:=by rw[ws,List.length_map,G.len]
 unfold cQ
 revert h
 cases nV g 8 with
 | some p=>
  obtain⟨s,z⟩:=p
  exact fun h=>S.val (S.seq (S.assign xO) (S.seq rfl (S.end h)))
 | none=>
  rintro ⟨a,b,h⟩
  exact S.val (S.seq (S.assign xO) (S.seq rfl (S.seq h (S.end (S.ret (E.aG rfl rfl (E.one rfl) ((jd [58] (ws g)).trans (e8 (by
   have:=d8 (k:=4) G.rB
   rw[TS] at this ⊢
   exact Nat.le_trans (Nat.add_le_add this (Nat.le_refl (1*8))) (by decide)) rfl))))))))
theorem ur {a:Nat} (h:a<16):aO iL (.int (a:Int)) (.int ((a+1:Nat):Int))=.ok (.bytes [dC a]):=by
 rw[md _ _ _ (by lia),Nat.add_sub_cancel_left]
 have:∀ a:Fin 16,(([48,49,50,51,52,53,54,55,56,57,97,98,99,100,101,102]:List Nat).drop a.1).take 1=[dC a.1]:=by decide +kernel
 rw[this ⟨a,h⟩]
theorem JQ:∀ g:List Nat,((aJ g).map hex2).flatten=(g.map hex4).flatten:=by
 intro z0
 induction z0 with
 | nil=>
  exact  rfl
 | cons x r ih=>
  rw[iw,List.map_cons,List.map_cons,List.map_cons,List.flatten_cons,List.flatten_cons,List.flatten_cons,ih,hex4,List.append_assoc]
theorem E.strip {D:Fn->List V->R V}{J:Ρ}{i:Nat}{s:List Nat} (h:ak D (.loc i) J=.ok (.str s)):ak D (.or (.aG .lstrip (.loc i) (.cons (.const (.str [48])) .nil)) (.const (.str [48]))) J=.ok (.str (nU s)):=by
 have m:ak D (.aG .lstrip (.loc i) (.cons (.const (.str [48])) .nil)) J=.ok (.str (s.dropWhile (· == 48))):=E.aG h rfl rfl rfl
 unfold nU
 cases hd:(s.dropWhile (· == 48)).isEmpty with
 | true=>exact E.Nq m (congrArg (fun b=>R.ok !b) hd) rfl
 | false=>exact E.Q4 m (congrArg (fun b=>R.ok !b) hd)
theorem vU {D:Fn->List V->R V}{A YZ x6 x7 x8 x9 dw cF cK dv cT:Option V}{H:List Nat}:∀ (g:List Nat) (pre:List Nat) (acc:List (List Nat)) (f:Nat) (x5:Option V),(∀ x∈g,x<65536)->H=pre++(g.map hex4).flatten->acc.length+g.length<=1000->
  ∃ o i,dk (fun J=>(ak D (.cmp .lt (.loc 3) (.loc 4)) J).bind V.truth) (aj D tJ) (f+g.length+1) [A,some (.bytes H),some (.list (acc.map V.str)),some (vi pre.length),some (vi H.length),x5,x6,x7,x8,x9,dw,cF,cK,dv,cT] =
   .next [A,some (.bytes H),some (.list ((acc++ws g).map V.str)),i,some (vi H.length),o,x6,x7,x8,x9,dw,cF,cK,dv,cT]:=by
 intro z0
 induction z0 with
 | nil=>
  intro pre acc f x5 _ hH _
  rw[List.map_nil,List.flatten_nil,List.append_nil] at hH
  subst hH
  rw[show acc++ws []=acc from List.append_nil _]
  exact⟨x5,some (vi H.length),W.stop (C.ok (E.cmp rfl rfl (bZ (decide_eq_false (Int.lt_irrefl _)))))⟩
 | cons v r ih=>
  intro pre acc f x5 hg hH Q6
  rw[List.length_cons] at Q6
  have e5:(pre++hex4 v).length=pre.length+4:=List.length_append
  have XO:H=(pre++hex4 v)++(r.map hex4).flatten:=by rw[hH,List.map_cons,List.flatten_cons,List.append_assoc]
  have hHl:H.length=pre.length+4+((r.map hex4).flatten).length:=by rw[XO,List.length_append,e5]
  have sl:aO (.bytes H) (.int (pre.length:Int)) (.int ((pre.length+4:Nat):Int))=.ok (.bytes (hex4 v)):=by
   rw[md _ _ _ (Nat.le_add_right _ _),Nat.add_sub_cancel_left,hH,List.drop_left,List.map_cons,List.flatten_cons,List.take_left' (show (hex4 v).length=4 from rfl)]
  have Q5:ascii (hex4 v)=true:=fQ fun c hc=>(List.mem_append.mp hc).elim (jQ (Nat.div_lt_of_lt_mul (hg v (.head _))) c) (jQ (Nat.mod_lt _ (by decide)) c)
  refine bT (ih (pre++hex4 v) (acc++[b6 v]) f (some (.str (b6 v))) (fun x hx=>hg x (.tail _ hx)) XO (by rw[List.length_append,List.length_singleton];lia)) fun o i e=>?_
  rw[e5,List.append_assoc] at e
  refine⟨o,i,W.turn (C.ok (E.cmp rfl rfl (bZ (decide_eq_true (Int.ofNat_lt.mpr (by lia)))))) ?_ e⟩
  refine S.seq (S.assign (E.aG (E.slice rfl rfl (E.bin rfl rfl rfl) rfl sl) rfl rfl (Gf Q5 rfl))) (S.seq (S.assign ((E.strip rfl).trans (congrArg (fun s=>R.ok (V.str s)) (A5 (hg v (.head _)))))) (S.seq (S.Gg (f:=V.str) rfl rfl (Nat.lt_of_lt_of_le (show acc.length<1001 by lia) (by decide))) rfl))
structure Sc where
 bs:Int
 bl:Int
 st:Int
 lz:Bool
noncomputable def jm:List Bool->Nat->Sc->Sc
 | [],_,s=>s
 | true::r,i,s=>jm r (i+1) (if s.lz then s else { s with st:=i,lz:=true })
 | false::r,i,s=>jm r (i+1) (if s.lz then (if s.bl<(i:Int) - s.st then ⟨s.st,(i:Int) - s.st,s.st,false⟩ else { s with lz:=false }) else s)
noncomputable def s8 (s:Sc):Int × Int:=if s.lz then (if s.bl<8 - s.st then (s.st,8 - s.st) else (s.bs,s.bl)) else (s.bs,s.bl)
noncomputable def TV (g:List Bool) (z s:Nat):Bool:=decide ((g.drop s).take z=List.replicate z true)
noncomputable def GO (g:List Bool):Nat->Option (Nat × Nat)
 | 0=>none
 | k+1=>if k=0 then none else match (List.range' 0 (9 - (k+1))).find? (TV g (k+1)) with
  | some s=>some (s,k+1)
  | none=>GO g k
theorem NZ {g:List Bool}:GO g (k+1)=(if k=0 then none else match (List.range' 0 (9 - (k+1))).find? (TV g (k+1)) with
  | some s=>some (s,k+1)
  | none=>GO g k):=rfl
theorem JR:∀ a b c d e f g h:Bool,(match GO [a,b,c,d,e,f,g,h] 8 with
  | some (s,z)=>decide (s8 (jm [a,b,c,d,e,f,g,h] 0 ⟨0,0,-1,false⟩)=((s:Int),(z:Int)))&&decide (1<z)
  | none=>decide ((s8 (jm [a,b,c,d,e,f,g,h] 0 ⟨0,0,-1,false⟩)).2<=1))=true:=by decide +kernel
theorem Rg (g:List Nat) (z s:Nat):e9 g z s=TV (g.map fun x=>decide (x=0)) z s:=by
 unfold e9 TV
 rw[<- List.map_drop,<- List.map_take]
 apply decide_eq_decide.mpr
 generalize (g.drop s).take z=l
 rw[List.eq_replicate_iff,List.eq_replicate_iff,List.length_map]
 refine and_congr_right fun O=>⟨fun h b hb=>?_,fun h b hb=>?_⟩
 ·refine Exists.elim (List.mem_map.mp hb) fun x zz=>aB zz fun hx av=>?_;clear zz;subst av
  rw[h x hx];rfl
 ·exact of_decide_eq_true (h _ (List.mem_map.mpr ⟨b,hb,rfl⟩))
theorem run_eq (g:List Nat):∀ k,nV g k=GO (g.map fun x=>decide (x=0)) k:=by
 intro z0
 induction z0 with
 | zero=>
  exact  rfl
 | succ k ih=>
  rw[vT,NZ,ih]
  unfold rA
  rw[show e9 g (k+1)=TV (g.map fun x=>decide (x=0)) (k+1) from funext fun s=>Rg g (k+1) s]
  try rfl
theorem yd {g:List Nat} (h:g.length=8):match nV g 8 with
  | some (s,z)=>s8 (jm (g.map fun x=>decide (x=0)) 0 ⟨0,0,-1,false⟩)=((s:Int),(z:Int))/\1<z
  | none=>(s8 (jm (g.map fun x=>decide (x=0)) 0 ⟨0,0,-1,false⟩)).2<=1:=by
 rw[run_eq]
 match g,h with
 | [a,b,c,d,e,f,g,h],_=>
  have:=JR (decide (a=0)) (decide (b=0)) (decide (c=0)) (decide (d=0)) (decide (e=0)) (decide (f=0)) (decide (g=0)) (decide (h=0))
  simp only[List.map_cons,List.map_nil]
  revert this
  cases GO [decide (a=0),decide (b=0),decide (c=0),decide (d=0),decide (e=0),decide (f=0),decide (g=0),decide (h=0)] 8 with
  | none=>intro this;exact of_decide_eq_true this
  | some p=>
   obtain⟨s,z⟩:=p
   intro this
   rw[Bool.and_eq_true] at this
   exact⟨of_decide_eq_true this.1,of_decide_eq_true this.2⟩
theorem GP {v:Nat} (h:v<65536):decide (b6 v=[48])=decide (v=0):=by
 apply decide_eq_decide.mpr
 constructor
 ·intro e
  have:=lg h
  rw[e] at this
  exact (Option.some.inj this).symm
 ·rintro rfl;rfl
theorem GQ {v:Nat} (h:v<65536):decide (b6 v=[102,102,102,102])=decide (v=65535):=by
 apply decide_eq_decide.mpr
 constructor
 ·intro e
  have:=lg h
  rw[e] at this
  exact (Option.some.inj this).symm
 ·rintro rfl;rfl
noncomputable def ye (z:Bool) (i:Nat) (s:Sc):Sc:=if z then (if s.lz then s else { s with st:=i,lz:=true }) else (if s.lz then (if s.bl<(i:Int) - s.st then ⟨s.st,(i:Int) - s.st,s.st,false⟩ else { s with lz:=false }) else s)
noncomputable def Rh (A H W x3 x4 x5:Option V) (s:Sc) (NR NS cK dv cT:Option V):Ρ:=[A,H,W,x3,x4,x5,some (.int s.bs),some (.int s.bl),some (.int s.st),some (.bool s.lz),NR,NS,cK,dv,cT]
theorem GR {D:Fn->List V->R V}{A H x4 x5 dw cF cK dv cT:Option V}{L:List V}{p:Nat}{w:List Nat}{z:Bool} (s:Sc) (hi:ib (.list L) (.int p)=.ok (.str w)) (hz:decide (w=[48])=z) :
  ∃ NR NS,aj D jK (Rh A H (some (.list L)) (some (vi p)) x4 x5 s dw cF cK dv cT)=.next (Rh A H (some (.list L)) (some (vi p)) x4 x5 (ye z p s) NR NS cK dv cT):=by
 have C:ak D (.cmp .ne (.idx (.loc 2) (.loc 3)) (.const (.str [48]))) (Rh A H (some (.list L)) (some (vi p)) x4 x5 s dw cF cK dv cT)=.ok (.bool !z):=hz ▸ E.cmp (E.idx rfl rfl rfl hi) rfl rfl
 obtain⟨bs,bl,st,lz⟩:=s
 cases z with
 | true=>cases lz<;>exact⟨_,_,S.one ((S.cO C rfl).trans rfl)⟩
 | false=>
  cases lz with
  | false=>exact⟨_,_,S.one ((S.aE C rfl).trans rfl)⟩
  | true=>
   by_cases hb:bl<(p:Int) - st
   ·refine⟨some (vi p),some (.int ((p:Int) - st)),S.one ((S.aE C rfl).trans (S.one ((S.Ti rfl rfl).trans (S.seq (S.assign rfl) (S.seq (S.assign rfl) (S.seq ((S.aE (E.cmp rfl rfl rfl) (decide_eq_true hb)).trans rfl) ((S.one (S.assign rfl)).trans ?_)))))))⟩
    rw[show ye false p ⟨bs,bl,st,true⟩=⟨st,(p:Int) - st,st,false⟩ from if_pos hb];rfl
   ·refine⟨some (vi p),some (.int ((p:Int) - st)),S.one ((S.aE C rfl).trans (S.one ((S.Ti rfl rfl).trans (S.seq (S.assign rfl) (S.seq (S.assign rfl) (S.seq ((S.cO (E.cmp rfl rfl rfl) (decide_eq_false hb)).trans rfl) ((S.one (S.assign rfl)).trans ?_)))))))⟩
    rw[show ye false p ⟨bs,bl,st,true⟩=⟨bs,bl,st,false⟩ from if_neg hb];rfl
theorem GU (z:Bool) (r:List Bool) (i:Nat) (s:Sc):jm (z::r) i s=jm r (i+1) (ye z i s):=by cases z<;>rfl
theorem JS {D:Fn->List V->R V}{A H x4 x5 cK dv cT:Option V}{all:List Nat}:∀ (g pre:List Nat) (p:Nat) (x3 dw cF:Option V) (s:Sc),p=pre.length->all=pre++g->(∀ x∈g,x<65536)->
  ∃ a b c,dg 3 (aj D jK) ((List.range' p g.length).map vi) (Rh A H (some (.list ((ws all).map V.str))) x3 x4 x5 s dw cF cK dv cT)=.next (Rh A H (some (.list ((ws all).map V.str))) a x4 x5 (jm (g.map fun x=>decide (x=0)) p s) b c cK dv cT):=by
 intro z0
 induction z0 with
 | nil=>exact fun pre p x3 dw cF s O O O=>⟨x3,dw,cF,rfl⟩
 | cons v r ih=>
  intro pre p x3 dw cF s hp qP hg
  have hi:ib (.list ((ws all).map V.str)) (.int p)=.ok (.str (b6 v)):=ej (by
   unfold ws
   rw[List.getElem?_map,List.getElem?_map,qP,hp,List.getElem?_append_right (Nat.le_refl _),Nat.sub_self];rfl)
  refine bT (GR (D:=D) (A:=A) (H:=H) (x4:=x4) (x5:=x5) (dw:=dw) (cF:=cF) (cK:=cK) (dv:=dv) (cT:=cT) s hi (GP (hg v (.head _)))) fun b c h=>?_
  refine eA (ih (pre++[v]) (p+1) (some (vi p)) b c (ye (decide (v=0)) p s) (by rw[hp,List.length_append,List.length_singleton]) (by rw[qP,List.append_assoc];rfl) fun x hx=>hg x (.tail _ hx)) fun a b c e=>?_
  rw[List.map_cons,GU]
  exact⟨a,b,c,F.cons h e⟩
theorem JT {D:Fn->List V->R V}{A H x4 x5 cK dv cT:Option V}{all:List Nat} (g pre:List Nat) (x3 dw cF:Option V) (s:Sc) (qP:all=pre++g) (hg:∀ x∈g,x<65536) :
  ∃ a b c,dg 3 (aj D jK) ((List.range' pre.length g.length).map vi) (Rh A H (some (.list ((ws all).map V.str))) x3 x4 x5 s dw cF cK dv cT)=.next (Rh A H (some (.list ((ws all).map V.str))) a x4 x5 (jm (g.map fun x=>decide (x=0)) pre.length s) b c cK dv cT):=JS g pre pre.length x3 dw cF s rfl qP hg
theorem yf {n:Nat} (b:List Nat) (h:b.length≠16):ae defs (n+1) .fM [.bytes b]=.exc .value:=
 S.kS (p:=lS) (S.fu ((S.aE (E.cmp (op:=.ne) (x:=vi b.length) (y:=vi 16) rfl rfl (bZ (congrArg Bool.not ((e7 b.length 16).trans (decide_eq_false h))))) rfl).trans rfl))
theorem N0:∀ l:List Nat,bf (l.map hex2)=2*l.length:=by
 intro z0
 induction z0 with
 | nil=>exact  rfl
 | cons x r ih=>rw[List.map_cons,bj,ih,List.length_cons];show 2+_=_;lia
theorem uv:∀ (g:List Nat) (k:Nat),(aJ g).drop (2*k)=aJ (g.drop k)
 | g,0=>rfl
 | [],k+1=>by simp[pZ,iw]
 | x::r,k+1=>by
  rw[show 2*(k+1)=2*k+2 by lia,iw,List.drop_succ_cons,List.drop_succ_cons,List.drop_succ_cons,uv r k]
theorem JV {W:List (List Nat)} (h4:∀ w∈W,w.length<=4) (h8:W.length<=8):bq .join [.str [58],.list (W.map V.str)]=.ok (.str (a9 [58] W))/\(a9 [58] W).length<=40:=by
 have h1:bf W<=32:=Nat.le_trans (d8 h4) (Nat.mul_le_mul_left 4 h8)
 exact⟨(jd [58] W).trans (e8 (show bf W+1*W.length<=1000000 by rw[Nat.one_mul];exact Nat.le_trans (Nat.add_le_add h1 h8) (by decide)) rfl),Nat.le_trans (ml W) (Nat.add_le_add h1 h8)⟩
theorem JW {D:Fn->List V->R V}{g:List Nat} (G:ng g):bQ D tK [some (.bytes (aJ g)),none,none,none,none,none,none,none,none,none,none,none,none,none,none]=.next [some (.bytes (aJ g)),some (.bytes (g.map hex4).flatten),none,none,none,none,none,none,none,none,none,none,none,none,none]:=by
 have hl:(aJ g).length=16:=by rw[gd,G.len]
 have JX:=cW g G.lt
 have e:ak D (.comp (.bin .add (.slice (.glob iL) (.bin .fdiv (.loc 14) (.const (.int 16))) (.bin .add (.bin .fdiv (.loc 14) (.const (.int 16))) (.const (.int 1)))) (.slice (.glob iL) (.bin .mod (.loc 14) (.const (.int 16))) (.bin .add (.bin .mod (.loc 14) (.const (.int 16))) (.const (.int 1))))) 14 (.val (.loc 0)) (.const (.bool true))) [some (.bytes (aJ g)),none,none,none,none,none,none,none,none,none,none,none,none,none,none]=.ok (.list (((aJ g).map hex2).map V.bytes)):=by
  refine (E.map (f:=fun x=>match x with | .int i=>.bytes (hex2 i.toNat) | _=>.none) (xs:=vl (aJ g)) rfl (by rw[List.length_map,hl];decide) fun x hx=>?_).trans (by rw[List.map_map,List.map_map];rfl)
  refine Exists.elim (List.mem_map.mp hx) fun y zz=>aB zz fun hy av=>?_;clear zz;subst av
  have Y0:=JX y hy
  have a:=E.iN (D:=D) (J:=[some (.bytes (aJ g)),none,none,none,none,none,none,none,none,none,none,none,none,none,some (vi y)]) (a:=.loc 14) (m:=y) 16 rfl
  have b:=E.sZ (D:=D) (J:=[some (.bytes (aJ g)),none,none,none,none,none,none,none,none,none,none,none,none,none,some (vi y)]) (a:=.loc 14) (m:=y) 16 rfl
  exact E.bin (E.slice rfl a (E.bin a rfl rfl) rfl (ur (Nat.div_lt_of_lt_mul Y0))) (E.slice rfl b (E.bin b rfl rfl) rfl (ur (Nat.mod_lt _ (by decide)))) rfl
 refine S.assign (E.aG rfl rfl (E.one e) ((xJ [] _).trans ?_))
 rw[decide_eq_true (show 2<=((aJ g).map hex2).length by rw[List.length_map,hl];decide),decide_eq_true (show bf ((aJ g).map hex2)+([]:List Nat).length*((aJ g).map hex2).length<=lim by rw[N0,hl,List.length_nil,Nat.zero_mul];decide),nH,JQ]
 rfl
theorem last_run {D:Fn->List V->R V}{x0 x1 x2 x3 x4 x5 b c cK dv cT:Option V} (s:Sc):∃ y z,bQ D qp [x0,x1,x2,x3,x4,x5,some (.int s.bs),some (.int s.bl),some (.int s.st),some (.bool s.lz),b,c,cK,dv,cT]=.next [x0,x1,x2,x3,x4,x5,some (.int (s8 s).1),some (.int (s8 s).2),some (.int s.st),some (.bool s.lz),y,z,cK,dv,cT]:=by
 obtain⟨bs,bl,st,lz⟩:=s
 unfold s8
 cases lz with
 | false=>exact⟨b,c,S.skip rfl⟩
 | true=>
  by_cases hb:bl<8 - st
  ·exact⟨some (.int 8),some (.int (8 - st)),by dsimp only;rw[if_pos rfl,if_pos hb];exact (S.aE rfl rfl).trans (S.seq (S.assign rfl) (S.seq (S.assign rfl) (S.one ((S.aE (b:=decide (bl<8 - st)) rfl (decide_eq_true hb)).trans rfl))))⟩
  ·exact⟨some (.int 8),some (.int (8 - st)),by dsimp only;rw[if_pos rfl,if_neg hb];exact (S.aE rfl rfl).trans (S.seq (S.assign rfl) (S.seq (S.assign rfl) (S.one (S.skip (E.cmp (op:=.gt) rfl rfl (bZ (decide_eq_false hb)))))))⟩
section
variable {n:Nat}{g:List Nat}{J:Ρ}
theorem JY (G:ng g) {st z:Nat} (Wv:1<z) (hn:ae defs (n+1) .fi [.bytes (aJ (g.drop 6))]=.ok (.str (bO (aJ (g.drop 6))))) (hd:(bO (aJ (g.drop 6))).length<=15) {X:Nat->Option V}{y:Option V}
  (h0:X 0=some (.bytes (aJ g))) (h2:X 2=some (.list ((ws g).map V.str))):∃ y',bQ (ae defs (n+1)) qq [X 0,X 1,X 2,X 3,X 4,X 5,some (vi st),some (vi z),X 8,X 9,X 10,X 11,y,none,none]=.next [X 0,X 1,X 2,X 3,X 4,X 5,some (vi st),some (vi z),X 8,X 9,X 10,X 11,y',some (.str (fT g st z)),none]:=by
 have wl:=G.rB
 have yc:(ws g).length=8:=by rw[ws,List.length_map,G.len]
 have Ww:aO (.bytes (aJ g)) (.int 12) .none=.ok (.bytes (aJ (g.drop 6))):=by
  have:=jO (aJ g) 12
  rw[show (12:Nat)=2*6 from rfl,uv] at this
  exact this
 have h5:5<g.length:=by rw[G.len];decide
 have i5:ak (ae defs (n+1)) (.idx (.loc 2) (.const (.int 5))) [X 0,X 1,X 2,X 3,X 4,X 5,some (vi st),some (vi z),X 8,X 9,X 10,X 11,y,none,none]=.ok (.str (b6 (g.getD 5 0))):=
  E.idx (E.loc h2) (y:=vi 5) rfl rfl (ej (by unfold ws;rw[List.getElem?_map,List.getElem?_map,List.getD_eq_getElem?_getD,List.getElem?_eq_getElem h5];rfl))
 have Wx:g.getD 5 0<65536:=by rw[List.getD_eq_getElem?_getD,List.getElem?_eq_getElem h5];exact G.lt _ (List.getElem_mem h5)
 have hc:ak (ae defs (n+1)) (.and (.cmp .eq (.loc 6) (.const (.int 0))) (.or (.cmp .eq (.loc 7) (.const (.int 6))) (.and (.cmp .eq (.loc 7) (.const (.int 5))) (.cmp .eq (.idx (.loc 2) (.const (.int 5))) (.const (.str [102,102,102,102])))))) [X 0,X 1,X 2,X 3,X 4,X 5,some (vi st),some (vi z),X 8,X 9,X 10,X 11,y,none,none] =
   .ok (.bool (decide (st=0)&&(decide (z=6)||(decide (z=5)&&decide (g.getD 5 0=65535))))):=
  C.and (E.cmp (y:=vi 0) rfl rfl (bZ (e7 st 0))) (C.or (E.cmp (y:=vi 6) rfl rfl (bZ (e7 z 6))) (C.and (E.cmp (y:=vi 5) rfl rfl (bZ (e7 z 5))) (E.cmp i5 rfl (bZ (GQ Wx)))))
 have call:∀ (y':Option V),ak (ae defs (n+1)) (.call .fi (.cons (.slice (.loc 0) (.const (.int 12)) (.const .none)) .nil)) [X 0,X 1,X 2,X 3,X 4,X 5,some (vi st),some (vi z),X 8,X 9,X 10,X 11,y',none,none]=.ok (.str (bO (aJ (g.drop 6)))):=fun y'=>
  E.call (E.one (E.slice (E.loc h0) rfl rfl rfl Ww)) hn
 have go:ak (ae defs (n+1)) (.cmp .gt (.loc 7) (.const (.int 1))) [X 0,X 1,X 2,X 3,X 4,X 5,some (vi st),some (vi z),X 8,X 9,X 10,X 11,y,none,none]=.ok (.bool true):=E.cmp (y:=vi 1) rfl rfl (bZ ((fP 1 z).trans (decide_eq_true Wv)))
 have PX:∀ k:Nat,k<=10->k+(bO (aJ (g.drop 6))).length<=1000000:=fun k hk=>Nat.le_trans (Nat.add_le_add hk hd) (by decide)
 cases hb:decide (st=0)&&(decide (z=6)||(decide (z=5)&&decide (g.getD 5 0=65535))) with
 | true=>
  rw[hb] at hc
  rw[Bool.and_eq_true] at hb
  have XQ:=of_decide_eq_true hb.1
  cases h6:decide (z=6) with
  | true=>
   refine⟨some (.str [58,58]),(S.aE go rfl).trans (S.last.trans ((S.aE hc rfl).trans (S.seq ((S.aE (E.cmp (op:=.eq) (x:=vi z) (y:=vi 6) rfl rfl (bZ ((e7 z 6).trans h6))) rfl).trans (S.one (S.assign rfl))) (S.one ((S.assign (E.bin rfl (call _) (adds (s:=[58,58]) (PX 2 (by decide))))).trans ?_)))))⟩
   unfold fT
   rw[if_pos ⟨XQ,of_decide_eq_true h6⟩];rfl
  | false=>
   rw[h6,Bool.false_or,Bool.and_eq_true] at hb
   refine⟨some (.str [58,58,102,102,102,102,58]),(S.aE go rfl).trans (S.last.trans ((S.aE hc rfl).trans (S.seq ((S.cO (E.cmp (op:=.eq) (x:=vi z) (y:=vi 6) rfl rfl (bZ ((e7 z 6).trans h6))) rfl).trans (S.one (S.assign rfl))) (S.one ((S.assign (E.bin rfl (call _) (adds (s:=[58,58,102,102,102,102,58]) (PX 7 (by decide))))).trans ?_)))))⟩
   unfold fT
   rw[if_neg (fun q=>of_decide_eq_false h6 q.2),if_pos ⟨XQ,of_decide_eq_true hb.2.1,of_decide_eq_true hb.2.2⟩];rfl
 | false=>
  rw[hb] at hc
  have n6:¬ (st=0/\z=6):=fun q=>by rw[decide_eq_true q.1,decide_eq_true q.2] at hb;contradiction
  have n5:¬ (st=0/\z=5/\g.getD 5 0=65535):=fun q=>by rw[decide_eq_true q.1,decide_eq_true q.2.1,decide_eq_true q.2.2,Bool.and_self,Bool.or_true] at hb;contradiction
  refine aB (JV (W:=(ws g).take st) (fun w hw=>wl w (List.mem_of_mem_take hw)) (by rw[List.length_take,yc];exact Nat.min_le_right _ _)) fun j1 b1=>?_
  refine aB (JV (W:=(ws g).drop (st+z)) (fun w hw=>wl w (List.mem_of_mem_drop hw)) (by rw[List.length_drop,yc];exact Nat.sub_le _ _)) fun j2 b2=>?_
  have u1:aO (.list ((ws g).map V.str)) .none (vi st)=.ok (.list (((ws g).take st).map V.str)):=by rw[fF,List.map_take]
  have u2:aO (.list ((ws g).map V.str)) (vi (st+z)) .none=.ok (.list (((ws g).drop (st+z)).map V.str)):=by rw[fG,List.map_drop]
  refine⟨y,(S.aE go rfl).trans (S.last.trans ((S.cO hc rfl).trans (S.one ((S.assign (E.bin (E.bin (E.aG rfl rfl (E.one (E.slice (E.loc h2) rfl rfl rfl u1)) j1) rfl (adds (Nat.le_trans (Nat.add_le_add_right b1 2) (by decide)))) (E.aG rfl rfl (E.one (E.slice (E.loc h2) (E.bin (op:=.add) (x:=vi st) (y:=vi z) (r:=.ok (vi (st+z))) rfl rfl rfl) rfl rfl u2)) j2) (adds ?_))).trans ?_))))⟩
  ·rw[List.length_append];exact Nat.le_trans (Nat.add_le_add (Nat.add_le_add_right b1 2) b2) (by decide)
  ·unfold fT
   rw[if_neg n6,if_neg n5];rfl
end
theorem vV {n:Nat}{g:List Nat} (G:ng g):ae defs (n+2) .fM [.bytes (aJ g)]=.ok (.str (cQ g)):=by
 have hl:(aJ g).length=16:=by rw[gd,G.len]
 obtain⟨H,hH⟩:∃ H,H=(g.map hex4).flatten:=⟨_,rfl⟩
 have e1:=JW (D:=ae defs (n+1)) G
 rw[<- hH] at e1
 refine bT (vU (D:=ae defs (n+1)) (A:=some (.bytes (aJ g))) (YZ:=none) (x6:=none) (x7:=none) (x8:=none) (x9:=none) (dw:=none) (cF:=none) (cK:=none) (dv:=none) (cT:=none) (H:=H) g [] [] 99991 none G.lt hH (by rw[G.len];decide)) fun o i e5=>?_
 rw[G.len] at e5
 refine eA (JT (D:=ae defs (n+1)) (A:=some (.bytes (aJ g))) (H:=some (.bytes H)) (x4:=some (vi H.length)) (x5:=o) (cK:=none) (dv:=none) (cT:=none) (all:=g) g [] i none none ⟨0,0,-1,false⟩ rfl G.lt) fun a b c SX=>?_
 rw[G.len] at SX
 have pG:=yd G.len
 unfold cQ
 revert SX pG
 rw[List.length_nil]
 generalize jm (g.map fun x=>decide (x=0)) 0 ⟨0,0,-1,false⟩=s
 intro SX pG
 refine bT (last_run (D:=ae defs (n+1)) (x0:=some (.bytes (aJ g))) (x1:=some (.bytes H)) (x2:=some (.list ((ws g).map V.str))) (x3:=a) (x4:=some (vi H.length)) (x5:=o) (b:=b) (c:=c) (cK:=none) (dv:=none) (cT:=none) s) fun NR NS Wy=>?_
 have start:∀ {z:SR},aj (ae defs (n+1)) qt [some (.bytes (aJ g)),some (.bytes H),some (.list ((ws g).map V.str)),a,some (vi H.length),o,some (.int (s8 s).1),some (.int (s8 s).2),some (.int s.st),some (.bool s.lz),NR,NS,none,none,none]=z->
   aj (ae defs (n+1)) lS [some (.bytes (aJ g)),none,none,none,none,none,none,none,none,none,none,none,none,none,none]=z:=fun h=>
  S.seq (S.skip (E.cmp (op:=.ne) (x:=vi (aJ g).length) (y:=vi 16) rfl rfl (bZ (congrArg Bool.not ((e7 _ 16).trans (decide_eq_true hl)))))) (S.seq e1 (S.seq (S.own (l:=[]) rfl) (S.seq (S.assign rfl) (S.seq (S.assign rfl) (S.seq e5 (S.seq (S.assign rfl) (S.seq (S.assign rfl) (S.seq (S.assign rfl) (S.seq (S.assign rfl) (S.seq (S.for (fE (k:=8) rfl (by decide)) (by decide) SX) (S.seq Wy h)))))))))))
 have yc:(ws g).length=8:=by rw[ws,List.length_map,G.len]
 cases TX:nV g 8 with
 | none=>
  rw[TX] at pG
  refine aB (JV G.rB (Nat.le_of_eq yc)) fun aaH O=>?_
  refine S.val (p:=lS) (start (S.seq ((S.cO (E.cmp (op:=.gt) (x:=.int (s8 s).2) (y:=.int 1) rfl rfl (bZ (decide_eq_false (Int.not_lt.mpr pG)))) rfl).trans (S.one (S.assign (E.aG rfl rfl (E.one rfl) aaH)))) (S.end (S.ret rfl))))
 | some sz=>
  obtain⟨st,z⟩:=sz
  rw[TX] at pG
  dsimp only at pG ⊢
  refine aB pG fun hf Wv=>?_
  rw[hf] at start
  refine bT G.tail fun p q zz=>b5 zz fun ht hp hq=>?_
  have SY:∀ x∈aJ (g.drop 6),x<256:=cW _ fun y hy=>G.lt y (List.mem_of_mem_drop hy)
  have h4:(aJ (g.drop 6)).length=4:=by rw[ht];rfl
  have hd:(bO (aJ (g.drop 6))).length<=15:=by
   rw[ht] at SY ⊢
   exact mn (SY _ (.head _)) (SY _ (.tail _ (.head _))) (SY _ (.tail _ (.tail _ (.head _)))) (SY _ (.tail _ (.tail _ (.tail _ (.head _)))))
  obtain⟨X,hX⟩:∃ X:Nat->Option V,X=fun i=>[some (.bytes (aJ g)),some (.bytes H),some (.list ((ws g).map V.str)),a,some (vi H.length),o,none,none,some (.int s.st),some (.bool s.lz),NR,NS].getD i none:=⟨_,rfl⟩
  refine Exists.elim (JY (n:=n) G (st:=st) (z:=z) Wv (by rw[p4 _ SY,if_pos h4]) hd (X:=X) (y:=none) (by rw[hX];rfl) (by rw[hX];rfl)) fun Wl VR=>?_
  rw[hX] at VR
  exact S.val (p:=lS) (start (S.seq VR (S.end (S.ret rfl))))
theorem lj {c:Nat}:∀ {W:List (List Nat)},W≠[]->(∀ w∈W,c∉w)->ag c (a9 [c] W)=W
 | [w],_,h=>bx (h w (.head _))
 | w::x::r,_,h=>by
  rw[aX,List.append_assoc]
  show ag c (w++c::a9 [c] (x::r))=_
  rw[aV,bx (h w (.head _)),lj (by simp) fun y hy=>h y (.tail _ hy)]
  rfl
theorem uw {W:List (List Nat)} (h:∀ w∈W,w≠[]/\58∉w):(a9 [58] W).head?≠some 58:=by
 match W,h with
 | [],_=>simp[de,cg,aX]
 | [w],h=>
  refine aB (h w (.head _)) fun h1 h2=>?_
  cases w with
  | nil=>exact absurd rfl h1
  | cons x r=>rw[cg];intro e;simp at e;exact h2 (by rw[e];exact .head _)
 | w::y::r,h=>
  refine aB (h w (.head _)) fun h1 h2=>?_
  cases w with
  | nil=>exact absurd rfl h1
  | cons x r'=>
   rw[aX]
   intro e;simp at e;exact h2 (by rw[e];exact .head _)
theorem GX {W:List (List Nat)} (h:∀ w∈W,w≠[]/\58∉w):(a9 [58] W).getLast?≠some 58:=by
 induction W with
 | nil=>simp[de,cg,aX]
 | cons w r ih=>
  refine aB (h w (.head _)) fun h1 h2=>?_
  have TY:=ih fun x hx=>h x (.tail _ hx)
  cases r with
  | nil=>
   intro e
   exact h2 (List.mem_of_getLast? e)
  | cons y r'=>
   rw[aX]
   rcases List.eq_nil_or_concat (a9 [58] (y::r')) with q | ⟨s,z,q⟩
   ·have h3:=(h y (.tail _ (.head _))).1
    exfalso
    cases r' with
    | nil=>exact h3 q
    | cons v r''=>rw[aX] at q;simp at q
   ·rw[q,List.concat_eq_append] at TY ⊢
    rw[List.getLast?_concat] at TY
    rw[<- List.append_assoc,List.getLast?_concat]
    exact TY
theorem GY:∀ {w:List Nat} (n:Nat),58∉w->aU n (w++[58])=[]:=by
 intro z0
 induction z0 with
 | nil=>
  exact fun n O=>rfl
 | cons x r ih=>
  intro n h
  rw[List.cons_append,bX,if_neg fun q=>h (by rw[q.1];exact .head _)]
  exact ih _ fun q=>h (.tail _ q)
theorem jU:∀ {W:List (List Nat)} (n:Nat),(∀ w∈W,w≠[]/\58∉w)->aU n (a9 [58] W)=[]
 | [],n,_=>rfl
 | [w],n,h=>fH (h w (.head _)).2 n
 | w::x::r,n,h=>by
  have hr:∀ y∈x::r,y≠[]/\58∉y:=fun y hy=>h y (.tail _ hy)
  rw[aX,jS (jU 0 hr) (uw hr),GY _ (h w (.head _)).2]
set_option tactic.hygienic true in
theorem JZ:∀ {L R:List Nat}{n:Nat},aU n L=[]->L.getLast?≠some 58->aU n (L++58::58::R)=(n+L.length)::aU (n+L.length+1) (58::R):=by
 intro z0
 induction z0 with
 | nil=>
  intro R n _ _
  rw[List.nil_append,bX,if_pos ⟨rfl,rfl⟩];rfl
 | cons x r ih=>
  intro R n h hl
  rw[bX] at h
  split at h
  ·contradiction
  ·rename_i q
   have hr:r.getLast?≠some 58:=by
    cases r with
    | nil=>simp
    | cons y r'=>rwa [List.getLast?_cons_cons] at hl
   rw[List.cons_append,bX,if_neg,ih h hr,List.length_cons,show n+1+r.length=n+(r.length+1) by lia]
   rintro ⟨rfl,hh⟩
   cases r with
   | nil=>exact hl rfl
   | cons y r'=>exact q ⟨rfl,hh⟩
theorem N1 {R:List Nat} (n:Nat) (h:R.head?≠some 58) (hc:aU 0 R=[]):aU n (58::R)=[]:=by
 rw[bX,if_neg fun q=>h q.2]
 exact nK hc
theorem rC {L R l r:List Nat} (h1:aU 0 L=[]) (h2:L.getLast?≠some 58) (h3:R.head?≠some 58) (h4:aU 0 R=[]) (e1:aZ L false=some l) (e2:aZ R true=some r) (h7:l.length+r.length<=7) :
  bA (L++58::58::R)=some (l++List.replicate (8 - l.length - r.length) 0++r):=by
 unfold bA
 rw[JZ h1 h2,N1 _ h3 h4,Nat.zero_add]
 dsimp only
 rw[List.take_left,<- List.drop_drop,List.drop_left]
 show (match aZ L false,aZ R true with
  | some l,some r=>if l.length+r.length<=7 then some (l++List.replicate (8 - l.length - r.length) 0++r) else none
  | _,_=>none)=_
 rw[e1,e2]
 dsimp only
 rw[if_pos h7]
theorem rD {c:Nat} (h:hexChar c):c≠58/\c≠46/\c≠37/\c≠10/\c<128:=by
 unfold hexChar at h;lia
theorem gR {g:List Nat} (h:∀ x∈g,x<65536):∀ w∈g.map b6,w≠[]/\58∉w:=fun w hw=>by
 refine Exists.elim (List.mem_map.mp hw) fun x zz=>aB zz fun hx av=>?_;clear zz;subst av
 exact⟨NX (h x hx),fun q=>(rD (rt 58 q)).1 rfl⟩
theorem A8 (e:Bool):∀ {g:List Nat},(∀ x∈g,x<65536)->bI (g.map b6) e=some g:=by
 intro z0
 induction z0 with
 | nil=>
  exact fun O=>rfl
 | cons x r ih=>
  intro h
  rw[List.map_cons,fI,lg (h x (.head _)),ih fun y hy=>h y (.tail _ hy)]
  rfl
theorem nW (e:Bool) {g:List Nat} (h:∀ x∈g,x<65536):aZ (a9 [58] (g.map b6)) e=some g:=by
 unfold aZ
 cases g with
 | nil=>rfl
 | cons x r=>
  have hw:=gR h
  have hs:=lj (c:=58) (W:=(x::r).map b6) (by simp) fun w PY=>(hw w PY).2
  rw[if_neg,hs]
  ·exact A8 e h
  ·intro q
   rw[q] at hs
   have:=(hw _ (List.mem_map.mpr ⟨x,.head _,rfl⟩)).1
   rw[List.map_cons] at hs
   have h2:[]=b6 x:=(List.cons.inj hs).1
   exact this h2.symm
theorem jV {v:Nat} (h:v<256):je (bG (v:Int))/\digitsVal (bG (v:Int))=v/\46∉bG (v:Int)/\58∉bG (v:Int)/\bG (v:Int)≠[]:=by
 have:∀ v:Fin 256,je (bG ((v.1:Nat):Int))/\digitsVal (bG ((v.1:Nat):Int))=v.1/\46∉bG ((v.1:Nat):Int)/\58∉bG ((v.1:Nat):Int)/\bG ((v.1:Nat):Int)≠[]:=by decide +kernel
 exact this ⟨v,h⟩
theorem GZ {l:List Nat} (hl:l.length=4) (h:∀ x∈l,x<256):aH (bO l)=l:=by
 have hs:ag 46 (bO l)=l.map fun n:Nat=>bG n:=by
  refine lj (fun q=>?_) fun w hw=>?_
  ·have:=congrArg List.length q
   rw[List.length_map,hl] at this
   contradiction
  ·refine Exists.elim (List.mem_map.mp hw) fun x zz=>aB zz fun hx av=>?_;clear zz;subst av
   exact (jV (h x hx)).2.2.1
 rw[dX,hs,if_pos]
 ·rw[List.map_map]
  have:∀ l:List Nat,(∀ x∈l,x<256)->l.map (digitsVal∘fun n:Nat=>bG n)=l:=by
   intro l
   induction l with
   | nil=>intro _;rfl
   | cons x r ih=>
    intro hh
    rw[List.map_cons,ih fun y hy=>hh y (.tail _ hy)]
    congr 1
    exact (jV (hh x (.head _))).2.1
  exact this l h
 ·refine⟨by rw[List.length_map,hl],fun q hq=>?_⟩
  refine Exists.elim (List.mem_map.mp hq) fun x zz=>aB zz fun hx av=>?_;clear zz;subst av
  exact (jV (h x hx)).1
theorem G0 {l:List Nat} (h:∀ x∈l,x<256):58∉bO l:=by
 unfold bO
 induction l with
 | nil=>simp[de,cg,aX]
 | cons x r ih=>
  have h1:=(jV (h x (.head _))).2.2.2.1
  have TY:=ih fun y hy=>h y (.tail _ hy)
  cases r with
  | nil=>rw[List.map_cons,List.map_nil,cg];exact h1
  | cons y r'=>
   rw[List.map_cons,List.map_cons,aX]
   ·intro q
    rcases List.mem_append.mp q with q | q
    ·rcases List.mem_append.mp q with q | q
     ·exact h1 q
     ·cases List.mem_singleton.mp q
    ·exact TY q
theorem A9 {p q:Nat} (hp:p<65536) (hq:q<65536):nG (aJ [p,q])=[p,q]:=by
 show [p / 256*256+p % 256,q / 256*256+q % 256]=_
 rw[show p / 256*256+p % 256=p by lia,show q / 256*256+q % 256=q by lia]
set_option tactic.hygienic true in
theorem G3 {g:List Nat}:∀ {k s z:Nat},k<=8->nV g k=some (s,z)->e9 g z s=true/\s+z<=8/\1<z:=by
 intro z0
 induction z0 with
 | zero=>
  intro s z _ h
  contradiction
 | succ k ih=>
  intro s z hk h
  rw[vT] at h
  split at h
  ·contradiction
  ·rename_i h0
   split at h
   ·rename_i s' q
    cases h
    unfold rA at q
    have h1:=List.find?_some q
    have h2:=List.mem_of_find?_eq_some q
    rw[List.mem_range'_1] at h2
    exact⟨h1,by lia,by lia⟩
   ·exact ih (by lia) h
theorem iB {g:List Nat} (G:ng g):bA (cQ g)=some g:=by
 unfold cQ
 cases hr:nV g 8 with
 | none=>
  dsimp only
  have hw:=gR G.lt
  unfold bA ws
  rw[jU 0 hw]
  dsimp only
  rw[nW true G.lt]
  dsimp only
  rw[if_pos G.len]
 | some p=>
  obtain⟨s,z⟩:=p
  refine b5 (G3 (Nat.le_refl _) hr) fun h1 h2 h3=>?_
  have hz:=of_decide_eq_true h1
  refine bT G.tail fun p q zz=>b5 zz fun ht hp hq=>?_
  have JX:∀ x∈aJ [p,q],x<256:=cW [p,q] (fun y hy=>by
   simp only[List.mem_cons,List.not_mem_nil,or_false] at hy
   rcases hy with rfl | rfl<;>assumption)
  have XR:aH (bO (aJ [p,q]))=aJ [p,q]:=GZ rfl JX
  have Rd:aH (bO (aJ [p,q]))≠[]:=by rw[XR];simp[pZ,iw]
  have PZ:=iy Rd
  have Y1:bO (aJ [p,q])≠[]:=fun e=>by have:=mi PZ;rw[e] at this;cases this
  have sL:=G0 JX
  have Tu:bI [bO (aJ [p,q])] true=some [p,q]:=by
   rw[fI,fS PZ]
   dsimp only
   rw[if_pos ⟨Rd,rfl,rfl⟩,XR,A9 hp hq]
  dsimp only
  unfold fT
  rw[ht]
  by_cases h6:s=0/\z=6
  ·rw[if_pos h6]
   refine aB h6 fun av gQ=>?_;try clear h6;subst av;subst gQ
   have e2:aZ (bO (aJ [p,q])) true=some [p,q]:=by
    unfold aZ
    rw[if_neg Y1,bx sL]
    exact Tu
   have:=rC (L:=[]) (R:=bO (aJ [p,q])) (l:=[]) (r:=[p,q]) rfl (by simp) (fun e=>sL (List.mem_of_mem_head? e)) (fH sL 0) rfl e2 (by simp)
   rw[show ([58,58]:List Nat)++bO (aJ [p,q])=[]++58::58::bO (aJ [p,q]) from rfl,this]
   congr 1
   rw[<- List.take_append_drop 6 g,ht]
   rw[List.drop_zero] at hz
   rw[hz]
   rfl
  ·rw[if_neg h6]
   by_cases h5:s=0/\z=5/\g.getD 5 0=65535
   ·rw[if_pos h5]
    refine b5 h5 fun av gQ hf=>?_;try clear h5;subst av;subst gQ
    have e2:aZ ([102,102,102,102]++58::bO (aJ [p,q])) true=some [65535,p,q]:=by
     unfold aZ
     rw[if_neg (by simp),aV,bx sL,bx (by decide)]
     show bI ([102,102,102,102]::[bO (aJ [p,q])]) true=_
     rw[fI,show aQ [102,102,102,102]=some 65535 from rfl,Tu]
     rfl
    have hc:aU 0 ([102,102,102,102]++58::bO (aJ [p,q]))=[]:=by
     rw[show ([102,102,102,102]:List Nat)++58::bO (aJ [p,q])=[102,102,102,102,58]++bO (aJ [p,q]) from rfl,jS (fH sL 0) (fun e=>sL (List.mem_of_mem_head? e))]
     rfl
    have:=rC (L:=[]) (l:=[]) (r:=[65535,p,q]) rfl (by simp) (by simp) hc rfl e2 (by simp)
    rw[show ([58,58,102,102,102,102,58]:List Nat)++bO (aJ [p,q])=[]++58::58::([102,102,102,102]++58::bO (aJ [p,q])) from by simp only[List.nil_append,List.cons_append],this]
    refine congrArg some ?_
    have Wz:g.drop 5=[65535,p,q]:=by
     have h5:5<g.length:=by rw[G.len];decide
     rw[List.drop_eq_getElem_cons h5,ht]
     refine congrArg (·::[p,q]) ?_
     rw[List.getD_eq_getElem?_getD,List.getElem?_eq_getElem h5] at hf
     exact hf
    rw[<- List.take_append_drop 5 g,Wz]
    rw[List.drop_zero] at hz
    rw[hz]
    rfl
   ·rw[if_neg h5]
    have g1:∀ x∈g.take s,x<65536:=fun x hx=>G.lt x (List.mem_of_mem_take hx)
    have g2:∀ x∈g.drop (s+z),x<65536:=fun x hx=>G.lt x (List.mem_of_mem_drop hx)
    unfold ws
    rw[<- List.map_take,<- List.map_drop]
    have l1:(g.take s).length=s:=by rw[List.length_take,G.len];omega
    have l2:(g.drop (s+z)).length=8 - s - z:=by rw[List.length_drop,G.len];omega
    have:=rC (jU 0 (gR g1)) (GX (gR g1)) (uw (gR g2)) (jU 0 (gR g2)) (nW false g1) (nW true g2) (by omega)
    rw[List.append_assoc]
    show bA (a9 [58] ((g.take s).map b6)++58::58::a9 [58] ((g.drop (s+z)).map b6))=_
    rw[this,l1,l2]
    congr 1
    rw[show 8 - s - (8 - s - z)=z by omega,<- hz,List.append_assoc]
    rw[<- List.drop_drop,List.take_append_drop,List.take_append_drop]
structure Txt (t:List Nat):Prop where
 asc:∀ c∈t,c<128
 nl:10∉t
 len:t.length<=520
theorem jn {s:List Nat}:∀ {W:List (List Nat)}{c:Nat},c∈a9 s W->c∈s∨∃ w∈W,c∈w
 | [],c,h=>by contradiction
 | [w],c,h=>by skip;exact .inr ⟨w,.head _,h⟩
 | w::x::r,c,h=>by
  rw[aX] at h
  ·rcases List.mem_append.mp h with h | h
   ·rcases List.mem_append.mp h with h | h
    ·exact .inr ⟨w,.head _,h⟩
    ·exact .inl h
   ·rcases jn h with h | ⟨y,hy,hc⟩
    ·exact .inl h
    ·exact .inr ⟨y,.tail _ hy,hc⟩
theorem ux {g:List Nat} (G:ng g):Txt (cQ g):=by
 have wl:=G.rB
 have yc:(ws g).length=8:=by rw[ws,List.length_map,G.len]
 refine bT G.tail fun p q zz=>b5 zz fun ht hp hq=>?_
 have SW:(bO (aJ [p,q])).length<=15:=mn (by lia) (by lia) (by lia) (by lia)
 have VS:∀ c∈bO (aJ [p,q]),c<128/\c≠10:=fun c hc=>by
  have:∀ v:Fin 256,∀ c∈bG ((v.1:Nat):Int),c<128/\c≠10:=by decide +kernel
  rcases jn hc with h | ⟨w,hw,h⟩
  ·rw[List.mem_singleton.mp h];decide
  ·refine Exists.elim (List.mem_map.mp hw) fun v zz=>aB zz fun hv av=>?_;clear zz;subst av
   have VP:v<256:=cW [p,q] (fun y hy=>by
    simp only[List.mem_cons,List.not_mem_nil,or_false] at hy
    rcases hy with rfl | rfl<;>assumption) v hv
   exact this ⟨v,VP⟩ c h
 have hw:∀ w∈ws g,∀ c∈w,c<128/\c≠10:=fun w hw c hc=>by
  refine Exists.elim (List.mem_map.mp hw) fun x zz=>aB zz fun hx av=>?_;clear zz;subst av
  have:=rD (rt c hc)
  exact⟨this.2.2.2.2,this.2.2.2.1⟩
 have hj:∀ W:List (List Nat),(∀ w∈W,w∈ws g)->∀ c∈a9 [58] W,c<128/\c≠10:=fun W hW c hc=>by
  rcases jn hc with h | ⟨w,PY,h⟩
  ·rw[List.mem_singleton.mp h];decide
  ·exact hw w (hW w PY) c h
 have hlen:∀ W:List (List Nat),(∀ w∈W,w∈ws g)->W.length<=8->(a9 [58] W).length<=40:=fun W hW h8=>by
  have h1:=ml W
  have h2:=d8 (k:=4) fun w PY=>wl w (hW w PY)
  lia
 have main:(∀ c∈cQ g,c<128/\c≠10)/\(cQ g).length<=520:=by
  unfold cQ
  cases nV g 8 with
  | none=>exact⟨hj _ fun w h=>h,Nat.le_trans (hlen _ (fun w h=>h) (by lia)) (by decide)⟩
  | some sz=>
   obtain⟨s,z⟩:=sz
   dsimp only
   unfold fT
   rw[ht]
   have c2:∀ c∈([58,58]:List Nat),c<128/\c≠10:=by decide
   have c7:∀ c∈([58,58,102,102,102,102,58]:List Nat),c<128/\c≠10:=by decide
   split
   ·exact⟨fun c hc=>(List.mem_append.mp hc).elim (c2 c) (VS c),by rw[List.length_append];show 2+_<=520;lia⟩
   ·split
    ·exact⟨fun c hc=>(List.mem_append.mp hc).elim (c7 c) (VS c),by rw[List.length_append];show 7+_<=520;lia⟩
    ·have h1:=hlen ((ws g).take s) (fun w h=>List.mem_of_mem_take h) (by rw[List.length_take];lia)
     have h2:=hlen ((ws g).drop (s+z)) (fun w h=>List.mem_of_mem_drop h) (by rw[List.length_drop];lia)
     refine⟨fun c hc=>?_,by rw[List.length_append,List.length_append];show _+2+_<=520;lia⟩
     rcases List.mem_append.mp hc with hc | hc
     ·rcases List.mem_append.mp hc with hc | hc
      ·exact hj _ (fun w h=>List.mem_of_mem_take h) c hc
      ·exact c2 c hc
     ·exact hj _ (fun w h=>List.mem_of_mem_drop h) c hc
 exact⟨fun c hc=>(main.1 c hc).1,fun h=>(main.1 10 h).2 rfl,main.2⟩
noncomputable def r6 (t:List Nat):R V:=ji ((bA t).map aJ)
noncomputable def rs (t:List Nat):R V:=ji ((bV t).map aJ)
noncomputable def r4 (t:List Nat):R V:=kX (aH t)
theorem rE {D:Fn->List V->R V}{f g:Fn}{as bs:List V}{r s y:R V}{p:aA}{J:Ρ} (h:D f as=r) (k:D g bs=s)
  (e1:∀ ψ:Fn->List V->R V,(aj ψ p J).value=(aj (fun z bs=>if z.ctorIdx=f.ctorIdx then ψ f as else ψ z bs) p J).value) (e2:∀ ψ:Fn->List V->R V,(aj (fun z bs=>if z.ctorIdx=f.ctorIdx then r else ψ z bs) p J).value=(aj (fun z O=>if z.ctorIdx=f.ctorIdx then r else ψ g bs) p J).value)
  (e3:(aj (fun z O=>if z.ctorIdx=f.ctorIdx then r else s) p J).value=y):(aj D p J).value=y:=by rw[e1,h,e2,k];exact e3
section
variable {n:Nat}{t:List Nat}
theorem e6 (T:Txt t):ae defs (n+2) .bL [.str t]=r6 t:=by rw[NV t T.asc T.nl T.len,iz];rfl
theorem Y2 (T:Txt t):ae defs (n+2) .bL [.bytes t]=r6 t:=by rw[JC t T.asc T.nl T.len,iz];rfl
theorem WB (T:Txt t):ae defs (n+2) .bL [.str t,.bool true]=rs t:=by rw[JD t T.asc T.nl T.len,xY];rfl
theorem e4 (T:Txt t):ae defs (n+1) .eE [.str t]=r4 t:=NC t (fQ T.asc) T.len
theorem P0 (h:aH t=[]):r4 t=.exc .syntax:=if_pos h
theorem J0 (h:aH t≠[]):r4 t=.ok (.bytes (aH t)):=if_neg h
theorem J1 (T:Txt t):ae defs (n+2) .iW [.str t]=if aH t=[] then .exc .syntax else .ok (.str t):=by
 by_cases hq:aH t=[]
 ·rw[if_pos hq]
  exact rE (p:=qo) (J:=[some (.str t)]) (f:=.eE) (g:=.fi) (as:=[.str t]) (bs:=[]) ((e4 T).trans (P0 hq)) rfl (fun O=>rfl) (fun O=>rfl) rfl
 ·refine kK (dE hq) fun a b c d zz=>nk zz fun e ha hb hc hd=>?_
  have h2:ae defs (n+1) .fi [.bytes (aH t)]=.ok (.str t):=by
   rw[p4 _ (fun x hx=>by
    rw[e] at hx
    simp only[List.mem_cons,List.not_mem_nil,or_false] at hx
    rcases hx with rfl | rfl | rfl | rfl<;>assumption),if_pos (by rw[e];rfl),(k8 hq).Wr]
  rw[if_neg hq]
  exact rE (p:=qo) (J:=[some (.str t)]) (f:=.eE) (g:=.fi) ((e4 T).trans (J0 hq)) h2 (fun O=>rfl) (fun O=>rfl) rfl
theorem rF {g:List Nat} (h:g.length=8/\∀ x∈g,x<65536):ng g:=⟨h.1,h.2⟩
theorem J2 (T:Txt t):ae defs (n+3) .iX [.str t]=match bA t with
  | some g=>.ok (.str (cQ g))
  | none=>.exc .syntax:=by
 have h6:=e6 (n:=n) T
 unfold r6 at h6
 cases hr:bA t with
 | none=>
  rw[hr] at h6
  exact rE (p:=qy) (J:=[some (.str t)]) (f:=.bL) (g:=.fM) (bs:=[]) h6 rfl (fun O=>rfl) (fun O=>rfl) rfl
 | some g=>
  rw[hr] at h6
  exact rE (p:=qy) (J:=[some (.str t)]) (f:=.bL) (g:=.fM) h6 (vV (rF (iA hr))) (fun O=>rfl) (fun O=>rfl) rfl
noncomputable def dp (t:List Nat):R V:=match bA t with
 | some g=>.ok (.str (cQ g))
 | none=>if aH t=[] then .exc .value else .ok (.str t)
theorem mr (T:Txt t):ae defs (n+4) .eY [.str t]=dp t:=by
 refine rE (p:=w8) (J:=[some (.str t)]) (f:=.iX) (g:=.iW) (J2 T) (J1 T) (fun O=>rfl) ?_ ?_
 ·intro ψ
  cases bA t<;>rfl
 ·unfold dp
  cases bA t with
  | some g=>rfl
  | none=>
   by_cases hq:aH t=[]
   ·rw[if_pos hq,if_pos hq];rfl
   ·rw[if_neg hq,if_neg hq];rfl
theorem S.retv {D:Fn->List V->R V}{J:Ρ}{e:PE}{r:aA}:(aj D (.cons (.ret e) r) J).value=ak D e J:=by
 show (((ak D e J).on J fun v=>.ret v).then (aj D r)).value=_
 cases ak D e J<;>rfl
theorem S.XS {D:Fn->List V->R V}{J:Ρ}{a b:PE}{f:Int} (h:ak D (.loc 0) J=.ok (.int f)):(aj D (.cons (.ite (.cmp .eq (.loc 0) (.glob fB)) (.cons (.ret a) .nil) (.cons (.ite (.cmp .eq (.loc 0) (.glob eH)) (.cons (.ret b) .nil) (.cons (.raise .bU .nil) .nil)) .nil)) .nil) J).value
  = if f=2 then ak D a J else if f=10 then ak D b J else .exc .bU:=by
 rw[S.last]
 by_cases h2:f=2
 ·rw[if_pos h2,S.aE (E.cmp h rfl rfl) (decide_eq_true h2)];exact S.retv
 ·rw[if_neg h2,S.cO (E.cmp h rfl rfl) (decide_eq_false h2),S.last]
  by_cases oV:f=10
  ·rw[if_pos oV,S.aE (E.cmp h rfl rfl) (decide_eq_true oV)];exact S.retv
  ·rw[if_neg oV,S.cO (E.cmp h rfl rfl) (decide_eq_false oV)];rfl
theorem Ri (f:Int):ae defs (n+1) .uQ [.int f,.str t]=if f=2 then ae defs n .eE [.str t] else if f=10 then ae defs n .bL [.str t,.bool true] else .exc .bU:=
 S.XS (D:=ae defs n) (J:=[some (.int f),some (.str t)]) rfl
theorem Rj (f:Int) (v:V):ae defs (n+1) .uR [.int f,v]=if f=2 then ae defs n .fi [v] else if f=10 then ae defs n .fM [v] else .exc .bU:=
 S.XS (D:=ae defs n) (J:=[some (.int f),some v]) rfl
noncomputable def P1 (t:List Nat):R V:=if aH t=[] then (match bV t with | some _=>.ok (.int 10) | none=>.exc .value) else .ok (.int 2)
noncomputable def P2 (t:List Nat):R V:=if aH t=[] then (match bV t with | some _=>.ok (.bool true) | none=>.ok (.bool false)) else .ok (.bool true)
noncomputable def P4 (t:List Nat):R V:=if aH t=[] then (match bV t with | some g=>.ok (.bool (decide (65280<=g.getD 0 0))) | none=>.exc .value) else .ok (.bool (decide ((aH t).getD 0 0 / 16=14)))
theorem both {y z:R V}{p:aA}{J:Ρ} (T:Txt t)
  (e1:∀ ψ:Fn->List V->R V,(aj ψ p J).value=(aj (fun z bs=>if z.ctorIdx=1 then ψ .eE [.str t] else ψ z bs) p J).value)
  (e2:∀ ψ:Fn->List V->R V,(aj (fun z bs=>if z.ctorIdx=1 then .exc .syntax else ψ z bs) p J).value=(aj (fun z O=>if z.ctorIdx=1 then .exc .syntax else ψ .bL [.str t,.bool true]) p J).value)
  (hn:bV t=none->(aj (fun z O=>if z.ctorIdx=1 then .exc .syntax else .exc .syntax) p J).value=y)
  (hs:∀ g,bV t=some g->(aj (fun z O=>if z.ctorIdx=1 then .exc .syntax else .ok (.bytes (aJ g))) p J).value=y)
  (hq:aH t≠[]->(aj (fun f as=>if f.ctorIdx=1 then .ok (.bytes (aH t)) else ae defs (n+2) f as) p J).value=z):(aj (ae defs (n+2)) p J).value=if aH t=[] then y else z:=by
 by_cases h:aH t=[]
 ·rw[if_pos h,e1,e4 T,P0 h,e2,WB T]
  unfold rs
  cases q:bV t with
  | none=>exact hn q
  | some g=>exact hs g q
 ·rw[if_neg h,e1,e4 T,J0 h]
  exact hq h
theorem N2 (T:Txt t):ae defs (n+3) .oK [.str t]=P1 t:=
 both (p:=CM) (J:=[some (.str t)]) T (fun O=>rfl) (fun O=>rfl) (fun q=>by rw[q];rfl) (fun g q=>by rw[q];rfl) fun O=>rfl
theorem J3 (T:Txt t):ae defs (n+3) .iY [.str t]=P2 t:=
 both (p:=w7) (J:=[some (.str t)]) T (fun O=>rfl) (fun O=>rfl) (fun q=>by rw[q];rfl) (fun g q=>by rw[q];rfl) fun O=>rfl
theorem N3 (T:Txt t):ae defs (n+3) .multi [.str t]=P4 t:=by
 refine both (p:=CN) (J:=[some (.str t),none]) T (fun O=>rfl) (fun O=>rfl) (fun q=>by rw[q];rfl) (fun g q=>?_) fun q=>?_
 ·rw[q]
  refine aB (uo q) fun hl hg=>?_
  cases g with
  | nil=>contradiction
  | cons x r=>exact bZ (a:=decide (((x / 256:Nat):Int)=255)) (decide_eq_decide.mpr (by have:=hg x (.head _);rw[List.getD_cons_zero];lia))
 ·refine kK (dE q) fun a b c d zz=>nk zz fun e ha hb hc hd=>?_
  rw[e]
  refine (S.val (S.end (S.C1 (S.seq (S.assign (v:=.int a) rfl) (S.end (S.ret (C.and (x:=decide (224<=(a:Int))) (y:=decide ((a:Int)<=239)) rfl rfl))))))).trans (bZ ?_)
  rw[<- Bool.decide_and]
  exact decide_eq_decide.mpr (by rw[List.getD_cons_zero];lia)
theorem G4 {f:Int} (hf:f.natAbs<1000):(bG f).length<=100000:=by
 have h1:∀ k:Fin 1000,Nat.ble (bG ((k.1:Nat):Int)).length 100000=true/\Nat.ble (bG (-((k.1:Nat):Int))).length 100000=true:=by decide +kernel
 have h2:=h1 ⟨f.natAbs,hf⟩
 rcases Int.natAbs_eq f with e | e
 ·rw[e];exact Nat.le_of_ble_eq_true h2.1
 ·rw[e];exact Nat.le_of_ble_eq_true h2.2
theorem N4 {f:Int} (hf:f.natAbs<1000):ae defs (n+1) .oM [.int f]=if f=2 then .ok (.str [48,46,48,46,48,46,48]) else if f=10 then .ok (.str [58,58]) else .exc .bU:=by
 show (aj (ae defs n) CP [some (.int f)]).value=_
 by_cases h2:f=2
 ·rw[if_pos h2];subst h2;rfl
 ·rw[if_neg h2]
  by_cases oV:f=10
  ·rw[if_pos oV];subst oV;rfl
  ·rw[if_neg oV]
   have l1:f.natAbs.log2<1920:=by
    have:=gL (n:=f.natAbs) (Nat.lt_trans hf (by decide))
    rwa [Int.natAbs_natCast] at this
   refine S.kS (ρ':=[some (.int f)]) (S.seq ((S.cO (E.cmp rfl rfl rfl) (decide_eq_false h2)).trans (S.one (S.skip (E.cmp rfl rfl (bZ (decide_eq_false oV)))))) (S.fu ?_))
   have g:=qK (D:=ae defs n) (J:=[some (.int f)]) (e:=.loc 0) (k:=.plain) (r:=.nil) rfl (e8 l1 rfl) (G4 hf) rfl
   have:=qK (e:=.const (.str [117,110,107,110,111,119,110,32,97,100,100,114,101,115,115,32,102,97,109,105,108,121,32])) (k:=.plain) rfl rfl (by decide) g
   exact xK (E.one (f7 this rfl)) rfl
end
noncomputable abbrev J4:List Nat:=[116,111,108,100]
noncomputable abbrev N5:List Nat:=[114,97,105,115,101,100]
noncomputable def Y3:dB->List Nat
 | .syntax=>[115,121,110,116,97,120]
 | .value=>[118,97,108,117,101]
 | .bU=>[102,97,109,105,108,121]
noncomputable def aC:R V->V
 | .ok v=>.tuple [.str J4,v]
 | .exc x=>.tuple [.str N5,.str (Y3 x)]
 | .stuck=>.none
theorem ku {J:Ρ}{n:Nat}{f:Fn}{as:List V}{r:R V} (hs:r≠.stuck) (h:ae defs n f as=r) (e1:∀ D,(aj D iq J).value=(aj (fun O O=>D f as) iq J).value)
  (e2:∀ v,(aj (fun O O=>.ok v) iq J).value=.ok (aC (.ok v))) (e3:∀ x,(aj (fun O O=>.exc x) iq J).value=.ok (aC (.exc x))):(aj (ae defs n) iq J).value=.ok (aC r):=by
 rw[e1,h]
 cases r with
 | ok v=>exact e2 v
 | exc x=>exact e3 x
 | stuck=>exact absurd rfl hs
theorem P5 {n:Nat}{g:V}{f:Int}{r:R V} (hs:r≠.stuck) (h:ae defs n .bL [g]=r):ae defs (n+1) .bH [.int 0,g,.int f]=.ok (aC r):=
 ku (J:=[some (.int 0),some g,some (.int f),none]) hs h (fun D=>by kernel_rfl) (fun v=>by kernel_rfl) (fun x=>by cases x<;>kernel_rfl)
theorem TZ {n:Nat}{g:V}{f:Int}{r:R V} (hs:r≠.stuck) (h:ae defs n .bL [g,.bool true]=r):ae defs (n+1) .bH [.int 1,g,.int f]=.ok (aC r):=
 ku (J:=[some (.int 1),some g,some (.int f),none]) hs h (fun D=>by kernel_rfl) (fun v=>by kernel_rfl) (fun x=>by cases x<;>kernel_rfl)
theorem T3 {n:Nat}{t:List Nat}{f:Int}{r:R V} (ha:ascii t=true) (hs:r≠.stuck) (h:ae defs n .bL [.bytes t]=r):ae defs (n+1) .bH [.int 2,.str t,.int f]=.ok (aC r):=by
 have e:ak (ae defs n) (.call .bL (.cons (.aG .encode (.loc 1) .nil) .nil)) [some (.int 2),some (.str t),some (.int f),none]=r:=E.call (vs:=[.bytes t]) (E.one (E.aG rfl rfl rfl (Gf ha rfl))) h
 have b:∀ {A B C aaG:aA},aj (ae defs n) (.cons (.ite (.cmp .eq (.loc 0) (.const (.int 0))) A (.cons (.ite (.cmp .eq (.loc 0) (.const (.int 1))) B (.cons (.ite (.cmp .eq (.loc 0) (.const (.int 2))) C aaG) .nil)) .nil)) .nil) [some (.int 2),some (.str t),some (.int f),none]=aj (ae defs n) C [some (.int 2),some (.str t),some (.int f),none]:=
  S.last.trans ((S.cO (b:=false) rfl rfl).trans (S.last.trans ((S.cO (b:=false) rfl rfl).trans (S.last.trans (S.aE (b:=true) rfl rfl)))))
 show (aj (ae defs n) iq [some (.int 2),some (.str t),some (.int f),none]).value=_
 cases r with
 | ok v=>exact S.val (S.seq (S.Jg (b.trans (S.one (S.assign e)))) (S.end (S.ret rfl)))
 | exc x=>exact S.val (S.end (S.C2 (b.trans (S.fu (S.C0 e))) (by cases x<;>rfl)))
 | stuck=>exact absurd rfl hs
theorem T4 {n:Nat}{g:V}{f:Int}{r:R V} (hs:r≠.stuck) (h:ae defs n .uQ [.int f,g]=r):ae defs (n+1) .bH [.int 3,g,.int f]=.ok (aC r):=
 ku (J:=[some (.int 3),some g,some (.int f),none]) hs h (fun D=>by kernel_rfl) (fun v=>by kernel_rfl) (fun x=>by cases x<;>kernel_rfl)
theorem T5 {n:Nat}{g:V}{f:Int}{r:R V} (hs:r≠.stuck) (h:ae defs n .oK [g]=r):ae defs (n+1) .bH [.int 4,g,.int f]=.ok (aC r):=
 ku (J:=[some (.int 4),some g,some (.int f),none]) hs h (fun D=>by kernel_rfl) (fun v=>by kernel_rfl) (fun x=>by cases x<;>kernel_rfl)
theorem T7 {n:Nat}{g:V}{f:Int}{r:R V} (hs:r≠.stuck) (h:ae defs n .iY [g]=r):ae defs (n+1) .bH [.int 5,g,.int f]=.ok (aC r):=
 ku (J:=[some (.int 5),some g,some (.int f),none]) hs h (fun D=>by kernel_rfl) (fun v=>by kernel_rfl) (fun x=>by cases x<;>kernel_rfl)
theorem T8 {n:Nat}{g:V}{f:Int}{r:R V} (hs:r≠.stuck) (h:ae defs n .multi [g]=r):ae defs (n+1) .bH [.int 6,g,.int f]=.ok (aC r):=
 ku (J:=[some (.int 6),some g,some (.int f),none]) hs h (fun D=>by kernel_rfl) (fun v=>by kernel_rfl) (fun x=>by cases x<;>kernel_rfl)
theorem P6 {n:Nat}{g:V}{f:Int}{r:R V} (hs:r≠.stuck) (h:ae defs n .eY [g]=r):ae defs (n+1) .bH [.int 7,g,.int f]=.ok (aC r):=
 ku (J:=[some (.int 7),some g,some (.int f),none]) hs h (fun D=>by kernel_rfl) (fun v=>by kernel_rfl) (fun x=>by cases x<;>kernel_rfl)
theorem P7 {n:Nat}{g:V}{f:Int}{r:R V} (hs:r≠.stuck) (h:ae defs n .fM [g]=r):ae defs (n+1) .bH [.int 8,g,.int f]=.ok (aC r):=
 ku (J:=[some (.int 8),some g,some (.int f),none]) hs h (fun D=>by kernel_rfl) (fun v=>by kernel_rfl) (fun x=>by cases x<;>kernel_rfl)
theorem T9 {n:Nat}{g:V}{f:Int}{r:R V} (hs:r≠.stuck) (h:ae defs n .uR [.int f,g]=r):ae defs (n+1) .bH [.int 9,g,.int f]=.ok (aC r):=
 ku (J:=[some (.int 9),some g,some (.int f),none]) hs h (fun D=>by kernel_rfl) (fun v=>by kernel_rfl) (fun x=>by cases x<;>kernel_rfl)
theorem Rk {n:Nat}{g:V}{f:Int}{r:R V} (hs:r≠.stuck) (h:ae defs n .oM [.int f]=r):ae defs (n+1) .bH [.int 10,g,.int f]=.ok (aC r):=
 ku (J:=[some (.int 10),some g,some (.int f),none]) hs h (fun D=>by kernel_rfl) (fun v=>by kernel_rfl) (fun x=>by cases x<;>kernel_rfl)
def Told (r:R V):Prop:=(∃ v,r=.ok v/\tE v v=.ok true)∨∃ x,r=.exc x
theorem Told.ns {r:R V} (h:Told r):r≠.stuck:=by
 rcases h with ⟨v,rfl,_⟩ | ⟨x,rfl⟩<;>intro q<;>contradiction
theorem Told.eq {r:R V} (h:Told r):V.eq (aC r) (aC r)=.ok true:=by
 rcases h with ⟨v,rfl,h⟩ | ⟨x,rfl⟩
 ·show V.eq (.tuple [.str J4,v]) (.tuple [.str J4,v])=_
  rw[Np,if_pos rfl,lQ,PN,R.bN,lQ,h,R.bN]
  rfl
 ·cases x<;>rfl
theorem Told.bytes (l:List Nat):Told (.ok (.bytes l)):=.inl ⟨_,rfl,by rw[Nn,decide_eq_true rfl]⟩
theorem Told.str (l:List Nat):Told (.ok (.str l)):=.inl ⟨_,rfl,by rw[PN,decide_eq_true rfl]⟩
theorem Told.int (i:Int):Told (.ok (.int i)):=.inl ⟨_,rfl,by rw[PL,decide_eq_true rfl]⟩
theorem Told.bool (b:Bool):Told (.ok (.bool b)):=.inl ⟨_,rfl,by rw[Q2,decide_eq_true rfl]⟩
theorem Told.exc (x:dB):Told (.exc x):=.inr ⟨x,rfl⟩
theorem t6 (t:List Nat):Told (r6 t):=by unfold r6 ji;split;exact .bytes _;exact .exc _
theorem ts (t:List Nat):Told (rs t):=by unfold rs ji;split;exact .bytes _;exact .exc _
theorem t4 (t:List Nat):Told (r4 t):=by unfold r4 kX;split;exact .exc _;exact .bytes _
theorem XT (t:List Nat):Told (P1 t):=by
 unfold P1;split
 ·split;exact .int _;exact .exc _
 ·exact .int _
theorem XU (t:List Nat):Told (P2 t):=by
 unfold P2;split
 ·split<;>exact .bool _
 ·exact .bool _
theorem XW (t:List Nat):Told (P4 t):=by
 unfold P4;split
 ·split;exact .bool _;exact .exc _
 ·exact .bool _
theorem VV (t:List Nat):Told (dp t):=by
 unfold dp;split
 ·exact .str _
 ·split;exact .exc _;exact .str _
noncomputable def jo (f:Int) (a b:R V):R V:=if f=2 then a else if f=10 then b else .exc .bU
theorem G5 {f:Int}{a b:R V} (ha:Told a) (hb:Told b):Told (jo f a b):=by
 unfold jo;split
 ·exact ha
 ·split;exact hb;exact .exc _
theorem vW {n:Nat} (f:Int) (a b:R V):ae defs (n+1) .hO [.int f,aC a,aC b]=.ok (aC (jo f a b)):=by
 show (aj (ae defs n) xx [some (.int f),some (aC a),some (aC b)]).value=_
 unfold jo
 by_cases h2:f=2
 ·rw[if_pos h2];exact S.val (S.end ((S.aE (E.cmp rfl rfl rfl) (decide_eq_true h2)).trans (S.end (S.ret rfl))))
 ·rw[if_neg h2]
  by_cases oV:f=10
  ·rw[if_pos oV];exact S.val (S.seq (S.skip (E.cmp rfl rfl (bZ (decide_eq_false h2)))) (S.end ((S.aE (E.cmp rfl rfl rfl) (decide_eq_true oV)).trans (S.end (S.ret rfl)))))
  ·rw[if_neg oV];exact S.val (S.seq (S.skip (E.cmp rfl rfl (bZ (decide_eq_false h2)))) (S.seq (S.skip (E.cmp rfl rfl (bZ (decide_eq_false oV)))) (S.end (S.ret rfl))))
noncomputable def rG (t:List Nat):V->Bool
 | .int i=>decide (t[i.toNat]?=some 37)
 | _=>false
theorem vX:∀ (s pre:List Nat),((List.range' pre.length s.length).map vi).filter (rG (pre++s))=vl (cG pre.length s):=by
 intro z0
 induction z0 with
 | nil=>
  exact fun pre=>rfl
 | cons x r ih=>
  intro pre
  have ih:=ih (pre++[x])
  rw[List.length_append,List.length_singleton,List.append_assoc,List.singleton_append] at ih
  have e:rG (pre++x::r) (vi pre.length)=decide (x=37):=by
   unfold rG
   dsimp only
   rw[Int.toNat_natCast,List.getElem?_append_right (Nat.le_refl _),Nat.sub_self]
   exact decide_eq_decide.mpr ⟨Option.some.inj,congrArg some⟩
  rw[List.length_cons,List.range'_succ,List.map_cons,List.filter_cons,cG,e,ih]
  by_cases h:x=37
  ·rw[if_pos h,if_pos (decide_eq_true h)];rfl
  ·rw[if_neg h,if_neg (by rw[decide_eq_false h];exact Bool.false_ne_true)]
theorem yg {t:List Nat} (T:Txt t) (a:Nat):Txt (t.take a):=⟨fun c hc=>T.asc c (List.mem_of_mem_take hc),fun h=>T.nl (List.mem_of_mem_take h),by rw[List.length_take];have:=T.len;lia⟩
theorem yh {t u:List Nat} (T:Txt t) (h:dp t=.ok (.str u)):Txt u/\dp u=dp t:=by
 unfold dp at h
 cases hr:bA t with
 | some g=>
  rw[hr] at h
  cases h
  have G:=rF (iA hr)
  refine⟨ux G,?_⟩
  unfold dp
  rw[hr,iB G]
 | none=>
  rw[hr] at h
  dsimp only at h
  split at h
  ·contradiction
  ·cases h;exact⟨T,rfl⟩
noncomputable def P8 (t:List Nat) (f:Int) (x2 x3 x4 x5:Option V) (a b c d e g h:V):Ρ:=[some (.str t),some (.int f),x2,x3,x4,x5,some a,some b,some c,some d,some e,some g,some h,none]
theorem cv {D:Fn->List V->R V}{J:Ρ}{a b:PE}{r:R V} (T:Told r) (ha:ak D a J=.ok (aC r)) (hb:ak D b J=.ok (aC r)):ak D (.cmp .ne a b) J=.ok (.bool false):=E.cmp ha hb (by rw[Wg,T.eq];rfl)
theorem yi {n:Nat}{t:List Nat}{f:Int} (T:Txt t) {x2 x3 x4 x5:Option V} :
  aj (ae defs (n+5)) qF (P8 t f x2 x3 x4 x5 (aC (r4 t)) (aC (r6 t)) (aC (rs t)) (aC (P1 t)) (aC (P2 t)) (aC (P4 t)) (aC (dp t)))=.ret (.bool true):=by
 have q0:=P5 (n:=n+4) (f:=0) (t6 t).ns (e6 (n:=n+2) T)
 have q1:=TZ (n:=n+4) (f:=0) (ts t).ns (WB (n:=n+2) T)
 have q2:=T3 (n:=n+4) (f:=0) (fQ T.asc) (t6 t).ns (Y2 (n:=n+2) T)
 have p:∀ f:Int,ae defs (n+4) .uQ [.int f,.str t]=jo f (r4 t) (rs t):=fun f=>by
  rw[Ri]
  unfold jo
  rw[e4 (n:=n+2) T,WB (n:=n+1) T]
 have q3:∀ f:Int,ae defs (n+5) .bH [.int 3,.str t,.int f]=.ok (aC (jo f (r4 t) (rs t))):=fun f=>T4 (G5 (t4 t) (ts t)).ns (p f)
 have q4:=T5 (n:=n+4) (f:=0) (XT t).ns (N2 (n:=n+1) T)
 have q5:=T7 (n:=n+4) (f:=0) (XU t).ns (J3 (n:=n+1) T)
 have q6:=T8 (n:=n+4) (f:=0) (XW t).ns (N3 (n:=n+1) T)
 have q7:=P6 (n:=n+4) (f:=0) (VV t).ns (mr (n:=n) T)
 refine S.seq (S.skip (C.or (cv (t6 t) (E.call rfl q0) rfl) (cv (t6 t) (E.call rfl q2) rfl))) (S.seq (S.skip (C.or (cv (ts t) (E.call rfl q1) rfl) (cv (ts t) (E.call rfl (q3 10)) rfl))) (S.seq (S.skip (cv (t4 t) (E.call rfl (q3 2)) rfl)) (S.seq (S.skip (cv (G5 (f:=f) (t4 t) (ts t)) (E.call rfl (q3 f)) (E.call rfl (vW (n:=n+4) f (r4 t) (rs t))))) (S.seq (S.skip (C.or (cv (XT t) (E.call rfl q4) rfl) (cv (XU t) (E.call rfl q5) rfl))) (S.seq (S.skip (C.or (cv (XW t) (E.call rfl q6) rfl) (cv (VV t) (E.call rfl q7) rfl))) (S.seq (S.skip ?_) (S.end (S.ret rfl))))))))
 have Y4:(∃ u,dp t=.ok (.str u))∨dp t=.exc .value:=by
  unfold dp
  split
  ·exact .inl ⟨_,rfl⟩
  ·split
   ·exact .inr rfl
   ·exact .inl ⟨_,rfl⟩
 have C9:=VV t
 rcases Y4 with ⟨u,hu⟩ | hu
 ·refine aB (yh T hu) fun U hU=>?_
  have XX:=P6 (n:=n+4) (f:=0) (VV u).ns (mr (n:=n) U)
  rw[hU,hu] at XX
  rw[hu] at C9 ⊢
  exact E.Jc (x:=.bool true) rfl rfl (cv C9 (E.call (vs:=[.int 7,.str u,.int 0]) rfl XX) rfl)
 ·rw[hu];exact E.Jd (x:=.bool false) rfl rfl
theorem Ba {n:Nat}{t:List Nat}{J:Ρ} (hl:t.length<=520) (h0:ak (ae defs n) (.loc 0) J=.ok (.str t)) (Y5:∀ x,ak (ae defs n) (.loc 0) (J.set 13 (some x))=.ok (.str t)) (P9:∀ x,ak (ae defs n) (.loc 13) (J.set 13 (some x))=.ok x):bQ (ae defs n) t7 J=.next (J.set 5 (some (.list (vl (cG 0 t))))):=by
 have hf:((List.range' 0 t.length).map vi).filter (rG t)=vl (cG 0 t):=vX t []
 have Nu:t.length<=1000000:=Nat.le_trans hl (by decide)
 rw[<- hf]
 refine S.assign (E.sel (fE (k:=t.length) (E.prim (E.one h0) rfl) Nu) (by rw[List.length_map,List.length_range'];exact Nu) fun x hx=>?_)
 refine Exists.elim (List.mem_map.mp hx) fun k zz=>aB zz fun hk av=>?_;clear zz;subst av
 have S0:k<t.length:=by have:=(List.mem_range'_1.mp hk).2;rwa [Nat.zero_add] at this
 refine⟨E.cmp (x:=.str [t[k]]) (y:=.str [37]) (E.idx (Y5 _) (P9 _) rfl (vH (List.getElem?_eq_getElem S0))) rfl (bZ ?_),P9 _⟩
 unfold rG
 dsimp only
 rw[Int.toNat_natCast,List.getElem?_eq_getElem S0]
 exact decide_eq_decide.mpr ⟨fun q=>congrArg some (List.cons.inj q).1,fun q=>congrArg (fun x=>[x]) (Option.some.inj q)⟩
theorem G6 {n:Nat}{t:List Nat} (T:Txt t) {f:Int}{x2:Option V}:bQ (ae defs (n+5)) t8 [some (.str t),some (.int f),x2,some (ov (bA t)),some (ov (bA t)),some (.list (vl (cG 0 t))),none,none,none,none,none,none,none,none]=.next [some (.str t),some (.int f),x2,some (ov (bA t)),some (ov (bV t)),some (.list (vl (cG 0 t))),none,none,none,none,none,none,none,none]:=by
 unfold bV
 match hs:cG 0 t with
 | []=>rfl
 | [a]=>exact (S.aE rfl rfl).trans (S.one (S.assign (E.call (E.one (E.slice (l:=.none) (h:=vi a) rfl rfl rfl rfl (uf t a))) (vO (n:=n+2) (t.take a) (yg T a).asc (yg T a).len))))
 | a::b::r=>exact S.skip (E.cmp (x:=vi (a::b::r).length) (y:=vi 1) (E.s6 rfl) rfl (bZ ((e7 _ 1).trans (decide_eq_false fun q=>by cases q))))
section
variable {n:Nat}{t:List Nat}{f:Int}{x2 x3 x4 x5:Option V}{a b c d e g h:V}
theorem ck {D:Fn->List V->R V}{J:Ρ}{i:Nat}{p:PE}{v:V} (hp:ak D p J=.ok v):bQ D (.assign i (.tuple (.cons (.const (.str [116,111,108,100])) (.cons p .nil)))) J=.next (J.set i (some (aC (.ok v)))):=S.assign (E.tup (E.two rfl hp))
theorem yj (hz:aH t=[]):bQ (ae defs (n+5)) qD (P8 t f x2 x3 (some (ov (bV t))) x5 a b (aC (.exc .syntax)) (aC (.exc .value)) (aC (.ok (.bool false))) (aC (.exc .value)) h)=.next (P8 t f x2 x3 (some (ov (bV t))) x5 a b (aC (rs t)) (aC (P1 t)) (aC (P2 t)) (aC (P4 t)) h):=by
 unfold rs P1 P2 P4
 rw[if_pos hz,if_pos hz,if_pos hz]
 cases hs:bV t with
 | none=>rfl
 | some h=>
  refine aB (uo hs) fun VW hJ=>?_
  have ho:=lZ (n:=n+4) h (by rw[VW];decide) hJ
  cases h with
  | nil=>contradiction
  | cons x r=>exact (S.aE rfl rfl).trans (S.seq (ck (E.call (E.one rfl) ho)) (S.seq (ck rfl) (S.seq (ck rfl) (S.one (ck (v:=.bool (decide (65280<=x))) (E.cmp (op:=.ge) (x:=vi x) (y:=vi 65280) rfl rfl (bZ (Tj 65280 x))))))))
theorem G7 (hz:aH t=[]):bQ (ae defs (n+5)) qE (P8 t f x2 (some (ov (bA t))) x4 x5 a (aC (.exc .syntax)) c d e g (aC (.exc .value)))=.next (P8 t f x2 (some (ov (bA t))) x4 x5 a (aC (r6 t)) c d e g (aC (dp t))):=by
 unfold r6 dp
 cases hs:bA t with
 | none=>rw[if_pos hz];rfl
 | some g=>
  refine aB (iA hs) fun VW hJ=>?_
  exact (S.aE rfl rfl).trans (S.seq (ck (E.call (E.one rfl) (lZ (n:=n+4) g (by rw[VW];decide) hJ))) (S.one (ck (E.call (E.one rfl) (p6 (n:=n+3) (rF ⟨VW,hJ⟩))))))
theorem G8 (hz:aH t≠[]):bQ (ae defs (n+5)) qC (P8 t f (some (.list (vl (aH t)))) x3 x4 x5 (aC (.exc .syntax)) b c (aC (.exc .value)) (aC (.ok (.bool false))) (aC (.exc .value)) (aC (.exc .value)))=.next (P8 t f (some (.list (vl (aH t)))) x3 x4 x5 (aC (r4 t)) b c (aC (P1 t)) (aC (P2 t)) (aC (P4 t)) (aC (dp t))):=by
 have F:=k8 hz
 unfold r4 kX P1 P2 P4 dp
 rw[if_neg hz,if_neg hz,if_neg hz,if_neg hz,F.read]
 dsimp only
 rw[if_neg hz]
 refine kK (dE hz) fun p q r s zz=>nk zz fun e ha hb Wo hd=>?_
 rw[e]
 have Y6:bq .bytes [.list (vl [p,q,r,s])]=.ok (.bytes [p,q,r,s]):=qL (by
  simp only[List.forall_mem_cons]
  exact⟨ha,hb,Wo,hd,fun x hx=>by contradiction⟩)
 exact (S.aE rfl rfl).trans (S.seq (ck (E.prim (E.one rfl) Y6)) (S.seq (ck rfl) (S.seq (ck rfl) (S.seq (ck (v:=.bool (decide (p / 16=14))) (E.cmp (op:=.eq) (x:=vi (p / 16)) (y:=vi 14) (E.iN 16 (m:=p) (E.idx (x:=.list (vl [p,q,r,s])) (y:=.int 0) rfl rfl rfl rfl)) rfl (bZ (e7 (p / 16) 14)))) (S.one (ck rfl))))))
end
theorem Rl {n:Nat}{t:List Nat}{f:Int} (T:Txt t):ae defs (n+6) .ke [.str t,.int f]=.ok (.bool true):=by
 have go:∀ {z:SR},aj (ae defs (n+5)) qG (P8 t f (some (.list (vl (aH t)))) (some (ov (bA t))) (some (ov (bV t))) (some (.list (vl (cG 0 t)))) (aC (.exc .syntax)) (aC (.exc .syntax)) (aC (.exc .syntax)) (aC (.exc .value)) (aC (.ok (.bool false))) (aC (.exc .value)) (aC (.exc .value)))=z->
   aj (ae defs (n+5)) uY [some (.str t),some (.int f),none,none,none,none,none,none,none,none,none,none,none,none]=z:=fun h=>
  S.seq (S.assign (E.call (E.one rfl) (Jk (n:=n+4) t T.asc T.len))) (S.seq (S.assign (E.call (E.one rfl) (vO (n:=n+2) t T.asc T.len))) (S.seq (S.assign rfl) (S.seq (Ba T.len rfl (fun O=>rfl) fun O=>rfl) (S.seq (G6 T) (S.seq (S.assign rfl) (S.seq (S.assign rfl) (S.seq (S.assign rfl) (S.seq (S.assign rfl) (S.seq (S.assign rfl) (S.seq (S.assign rfl) (S.seq (S.assign rfl) h)))))))))))
 refine S.val (p:=uY) (go ?_)
 by_cases hz:aH t=[]
 ·have n4:aC (.exc .syntax)=aC (r4 t):=by unfold r4 kX;rw[if_pos hz]
  refine S.seq (S.skip (by rw[hz];rfl)) (S.seq (yj hz) (S.seq (G7 hz) ?_))
  rw[n4];exact yi T
 ·have F:=k8 hz
  have n6:aC (.exc .syntax)=aC (r6 t):=by unfold r6;rw[F.read];rfl
  have ns:aC (.exc .syntax)=aC (rs t):=by unfold rs;rw[F.scp];rfl
  refine S.seq (G8 hz) (S.seq (S.skip (by rw[F.scp];rfl)) (S.seq (S.skip (by rw[F.read];rfl)) ?_))
  have:=yi (n:=n) (f:=f) T (x2:=some (.list (vl (aH t)))) (x3:=some (ov (bA t))) (x4:=some (ov (bV t))) (x5:=some (.list (vl (cG 0 t))))
  rwa [<- n6,<- ns] at this
theorem uy:∀ (g:List Nat) (k:Nat),(aJ g).take (2*k)=aJ (g.take k)
 | g,0=>rfl
 | [],k+1=>by rw[List.take_nil];rfl
 | x::r,k+1=>by rw[Nat.mul_succ,aJ,List.take_succ_cons,List.take_succ_cons,List.take_succ_cons,aJ,uy r k]
theorem yk:∀ {a b:List Nat},aJ a=aJ b->a=b
 | [],[],_=>rfl
 | [],_::_,h=>by contradiction
 | _::_,[],h=>by contradiction
 | x::a,y::b,h=>by
  refine aB (List.cons.inj h) fun h1 h2=>?_
  refine aB (List.cons.inj h2) fun h2 h3=>?_
  rw[yk h3,<- Nat.div_add_mod x 256,h1,h2,Nat.div_add_mod]
theorem Bb (g:List Nat):([0,0,0,0,0,0,0,0,0,0,255,255]:List Nat).isPrefixOf (aJ g)=decide (g.take 6=[0,0,0,0,0,65535]):=by
 rw[Bool.eq_iff_iff,decide_eq_true_eq,List.isPrefixOf_iff_prefix,List.prefix_iff_eq_take]
 show aJ [0,0,0,0,0,65535]=(aJ g).take (2*6)↔_
 rw[uy]
 exact⟨fun h=>(yk h).symm,fun h=>by rw[h]⟩
theorem J5 {n:Nat} (b:List Nat):ae defs (n+1) .mapped [.bytes b]=.ok (.bool (([0,0,0,0,0,0,0,0,0,0,255,255]:List Nat).isPrefixOf b)):=by kernel_rfl
theorem Rm {n:Nat}{g:List Nat} (G:ng g):ae defs (n+6) .qg [.list (vl g)]=.ok (.bool true):=by
 have q8:=P7 (n:=n+4) (f:=0) (Told.str (cQ g)).ns (vV (n:=n+2) G)
 have h6:=e6 (n:=n+2) (ux G)
 have Y7:r6 (cQ g)=.ok (.bytes (aJ g)):=by unfold r6;rw[iB G];rfl
 rw[Y7] at h6
 have q0:=P5 (n:=n+4) (f:=0) (Told.bytes (aJ g)).ns h6
 have hm:=J5 (n:=n+4) (aJ g)
 rw[Bb g] at hm
 have hs:aO (.list (vl g)) .none (.int 6)=.ok (.list (vl (g.take 6))):=by
  have:=fF (vl g) 6
  rw[<- List.map_take] at this
  exact this
 have WC:ak (ae defs (n+5)) (.cmp .eq (.slice (.loc 0) (.const .none) (.const (.int 6))) (.list (.cons (.const (.int 0)) (.cons (.const (.int 0)) (.cons (.const (.int 0)) (.cons (.const (.int 0)) (.cons (.const (.int 0)) (.cons (.const (.int 65535)) .nil)))))))) [some (.list (vl g)),some (.bytes (aJ g)),some (.str (cQ g))]=.ok (.bool (decide (g.take 6=[0,0,0,0,0,65535]))):=
  E.cmp (E.slice (l:=.none) (h:=.int 6) rfl rfl rfl rfl hs) (y:=.list (vl [0,0,0,0,0,65535])) rfl (by rw[vG,JM];rfl)
 refine S.val (p:=CW) (S.seq (J:=[some (.list (vl g)),none,none]) (S.assign (E.call (E.one rfl) (lZ (n:=n+4) g (by rw[G.len];decide) G.lt))) (S.seq (S.assign (E.call (E.one rfl) (p6 (n:=n+3) G))) (S.seq (S.skip (cv (Told.str (cQ g)) (E.call rfl q8) rfl)) (S.seq (S.skip (cv (Told.bytes (aJ g)) (E.call rfl q0) rfl)) (S.end (S.ret (E.cmp (E.call (E.one rfl) hm) WC ?_)))))))
 cases decide (g.take 6=[0,0,0,0,0,65535])<;>rfl
theorem J6 {n:Nat} (a b:Nat) (r:List Nat):ae defs (n+1) .eZ [.list (vl (a::b::r))]=.ok (.list (vl (aJ [a,b]))):=by
 have h:∀ {i:Int}{v:Nat},ib (.list (vl (a::b::r))) (.int i)=.ok (vi v)->ak (ae defs n) (.idx (.loc 0) (.const (.int i))) [some (.list (vl (a::b::r)))]=.ok (vi v):=fun h=>E.idx rfl (y:=.int _) rfl rfl h
 have ha:=h (i:=0) (v:=a) rfl
 have hb:=h (i:=1) (v:=b) rfl
 refine S.val (D:=ae defs n) (J:=[some (.list (vl (a::b::r)))]) (p:=qz) (S.end (S.ret (E.lst (vs:=vl (aJ [a,b])) ?_)))
 exact E.more (E.iN 256 ha) (E.more (E.sZ 256 ha) (E.two (E.iN 256 hb) (E.sZ 256 hb)))
theorem ym {D:Fn->List V->R V}{J:Ρ}{a b:PE}{r:R V} (T:Told r) (ha:ak D a J=.ok (aC r)) (hb:ak D b J=.ok (aC r)):ak D (.cmp .eq a b) J=.ok (.bool true):=E.cmp ha hb (by rw[vG,T.eq];rfl)
section
variable {n:Nat}{x0:Option V}{f:Int}{size:Nat}{B:List Nat}{y:V}
theorem yn {a b:Nat}{r:List Nat} (hz:B.length=size) (hB:size=4->B=aJ [a,b]) (hs:∀ x∈B,x<256):∃ nr,Told nr/\(∀ k,ae defs (k+1) .fi [.bytes B]=nr)/\
  bQ (ae defs (n+5)) lW [x0,some (vi size),some (.int f),some (.list (vl (a::b::r))),some (.bytes B),some (aC (.exc .syntax)),some y]=.next [x0,some (vi size),some (.int f),some (.list (vl (a::b::r))),some (.bytes B),some (aC nr),some y]:=by
 have c:ak (ae defs (n+5)) (.cmp .eq (.loc 1) (.const (.int 4))) [x0,some (vi size),some (.int f),some (.list (vl (a::b::r))),some (.bytes B),some (aC (.exc .syntax)),some y]=.ok (.bool (decide (size=4))):=E.cmp (x:=vi size) (y:=vi 4) rfl rfl (bZ (e7 size 4))
 by_cases h4:size=4
 ·rw[hB h4] at hs
  refine⟨.ok (.str (bO (aJ [a,b]))),.str _,fun k=>by rw[hB h4,p4 _ hs];rfl,(S.aE c (decide_eq_true h4)).trans (S.one (ck (E.call (E.one (E.call (E.one rfl) (J6 (n:=n+4) a b r))) (vI (n:=n+4) _ (by show (4:Nat)<=100;decide) fun x hx=>Nat.lt_trans (hs x hx) (by decide)))))⟩
 ·exact⟨.exc .syntax,.exc _,fun k=>by rw[p4 _ hs,if_neg (by rw[hz];exact h4)],S.skip (c.trans (bZ (decide_eq_false h4)))⟩
theorem G9 {u:List Nat} (U:ng u) (hz:B.length=size) (hB:size=16->B=aJ u):∃ wr,Told wr/\(∀ k,ae defs (k+2) .fM [.bytes B]=wr)/\
  bQ (ae defs (n+5)) lX [x0,some (vi size),some (.int f),some (.list (vl u)),some (.bytes B),some y,some (aC (.exc .value))]=.next [x0,some (vi size),some (.int f),some (.list (vl u)),some (.bytes B),some y,some (aC wr)]:=by
 have c:ak (ae defs (n+5)) (.cmp .eq (.loc 1) (.const (.int 16))) [x0,some (vi size),some (.int f),some (.list (vl u)),some (.bytes B),some y,some (aC (.exc .value))]=.ok (.bool (decide (size=16))):=E.cmp (x:=vi size) (y:=vi 16) rfl rfl (bZ (e7 size 16))
 by_cases h:size=16
 ·exact⟨.ok (.str (cQ u)),.str _,fun k=>by rw[hB h];exact vV U,(S.aE c (decide_eq_true h)).trans (S.one (ck (E.call (E.one rfl) (p6 (n:=n+3) U))))⟩
 ·exact⟨.exc .value,.exc _,fun k=>yf B (by rw[hz];exact h),S.skip (c.trans (bZ (decide_eq_false h)))⟩
end
theorem Ha {n:Nat}{g:List Nat} (G:ng g) {size:Nat} (hz:size<=20) (f:Int):ae defs (n+6) .fN [.list (vl g),.int (size:Int),.int f]=.ok (.bool true):=by
 obtain⟨a,b,r,hu,U⟩:∃ a b r,g.drop 4++g.take 4=a::b::r/\ng (a::b::r):=by
  have U:ng (g.drop 4++g.take 4):=⟨by rw[List.length_append,List.length_drop,List.length_take,G.len];rfl,fun x hx=>(List.mem_append.mp hx).elim (fun h=>G.lt x (List.mem_of_mem_drop h)) fun h=>G.lt x (List.mem_of_mem_take h)⟩
  generalize g.drop 4++g.take 4=u at U
  match u,U with
  | [],U=>cases U.len
  | [_],U=>cases U.len
  | a::b::r,U=>exact⟨a,b,r,rfl,U⟩
 have s1:aO (.list (vl g)) (.int 4) .none=.ok (.list (vl (g.drop 4))):=by
  have:=fG (vl g) 4
  rw[<- List.map_drop] at this
  exact this
 have s2:aO (.list (vl g)) .none (.int 4)=.ok (.list (vl (g.take 4))):=by
  have:=fF (vl g) 4
  rw[<- List.map_take] at this
  exact this
 have VX:=U.len
 have XY:∀ x∈(a::b::r)++(a::b::r),x<65536:=fun x hx=>(List.mem_append.mp hx).elim (U.lt x) (U.lt x)
 have ho:=lZ (n:=n+4) ((a::b::r)++(a::b::r)) (by rw[List.length_append,VX];decide) XY
 obtain⟨B,hB⟩:∃ B,B=(aJ ((a::b::r)++(a::b::r))).take size:=⟨_,rfl⟩
 have XZ:B.length=size:=by rw[hB,List.length_take,gd,List.length_append,VX];exact Nat.min_eq_left (Nat.le_trans hz (by decide))
 have Y8:∀ x∈B,x<256:=fun x hx=>cW _ XY x (List.mem_of_mem_take (hB ▸ hx))
 refine Exists.elim (yn (n:=n) (x0:=some (.list (vl g))) (f:=f) (y:=aC (.exc .value)) (r:=r) XZ (fun h=>by rw[hB,h];rfl) Y8) fun nr zz=>b5 zz fun Tn Y9 h4=>?_
 refine Exists.elim (G9 (n:=n) (x0:=some (.list (vl g))) (f:=f) (y:=aC nr) U XZ (fun h=>by rw[hB,oU,h,List.take_left'];rw[gd,VX])) fun wr zz=>b5 zz fun Tw X1 h5=>?_
 have q8:=P7 (n:=n+4) (f:=0) Tw.ns (X1 (n+2))
 have p:∀ f:Int,ae defs (n+4) .uR [.int f,.bytes B]=jo f nr wr:=fun f=>by
  rw[Rj]
  unfold jo
  rw[Y9 (n+2),X1 (n+1)]
 have q9:∀ f:Int,ae defs (n+5) .bH [.int 9,.bytes B,.int f]=.ok (aC (jo f nr wr)):=fun f=>T9 (G5 Tn Tw).ns (p f)
 have e0:bQ (ae defs (n+5)) lU [some (.list (vl g)),some (vi size),some (.int f),none,none,none,none]=.next [some (.list (vl g)),some (vi size),some (.int f),some (.list (vl (a::b::r))),none,none,none]:=
  S.assign (E.bin (E.slice (l:=.int 4) (h:=.none) rfl rfl rfl rfl s1) (E.slice (l:=.none) (h:=.int 4) rfl rfl rfl rfl s2) (by rw[vM (by rw[List.length_drop,List.length_take,G.len];decide),hu]))
 have e1:bQ (ae defs (n+5)) lV [some (.list (vl g)),some (vi size),some (.int f),some (.list (vl (a::b::r))),none,none,none]=.next [some (.list (vl g)),some (vi size),some (.int f),some (.list (vl (a::b::r))),some (.bytes B),none,none]:=by
  rw[hB]
  exact S.assign (E.slice (l:=.none) (h:=vi size) (E.call (E.one (E.bin rfl rfl (vM (by rw[VX];decide)))) ho) rfl rfl rfl (ug _ size))
 exact S.val (p:=qH) (S.seq e0 (S.seq e1 (S.seq (S.assign rfl) (S.seq (S.assign rfl) (S.seq h4 (S.seq h5 (S.seq (S.skip (C.or (cv Tw (E.call rfl q8) rfl) (cv Tw (E.call rfl (q9 10)) rfl))) (S.seq (S.skip (cv Tn (E.call rfl (q9 2)) rfl)) (S.end (S.ret (ym (G5 (f:=f) Tn Tw) (E.call rfl (q9 f)) (E.call rfl (vW (n:=n+4) f nr wr)))))))))))))
theorem Ua {n:Nat}{f:Int} (hf:f.natAbs<1000):ae defs (n+6) .zt [.int f]=.ok (.bool true):=by
 have hd:ae defs (n+5) .iK [.list [.int 0,.int 0,.int 0,.int 0]]=.ok (.str [48,46,48,46,48,46,48]):=vI (n:=n+4) [0,0,0,0] (by decide) (by decide)
 have X2:=p6 (n:=n+3) (g:=[0,0,0,0,0,0,0,0]) ⟨rfl,by decide⟩
 have Za:cQ [0,0,0,0,0,0,0,0]=[58,58]:=by decide +kernel
 rw[Za] at X2
 have Ta:=Told.str [48,46,48,46,48,46,48]
 have Tb:=Told.str [58,58]
 have q:∀ f:Int,f.natAbs<1000->ae defs (n+5) .bH [.int 10,.none,.int f]=.ok (aC (jo f (.ok (.str [48,46,48,46,48,46,48])) (.ok (.str [58,58])))):=fun f hf=>Rk (G5 Ta Tb).ns (N4 hf)
 exact S.val (p:=IW) (S.seq (J:=[some (.int f),none,none]) (ck (E.call (vs:=[.list [.int 0,.int 0,.int 0,.int 0]]) rfl hd)) (S.seq (ck (E.call (vs:=[.list (vl [0,0,0,0,0,0,0,0])]) rfl X2)) (S.seq (S.skip (C.or (cv Ta (E.call rfl (q 2 (by decide))) rfl) (cv Tb (E.call rfl (q 10 (by decide))) rfl))) (S.end (S.ret (ym (G5 (f:=f) Ta Tb) (E.call rfl (q f hf)) (E.call rfl (vW (n:=n+4) f _ _))))))))
def N6 (c:Nat):Prop:=c<128/\c≠10
def GW (k:Nat) (w:List Nat):Prop:=(∀ c∈w,N6 c)/\w.length<=k
def PW (k:Nat) (W:List (List Nat)):Prop:=∀ w∈W,GW k w
theorem GW.mono {k m:Nat}{w:List Nat} (h:GW k w) (q:k<=m):GW m w:=⟨h.1,Nat.le_trans h.2 q⟩
theorem GW.app {k m:Nat}{v w:List Nat} (h:GW k v) (q:GW m w):GW (k+m) (v++w):=⟨fun c hc=>(List.mem_append.mp hc).elim (h.1 c) (q.1 c),by rw[List.length_append];have:=h.2;have:=q.2;lia⟩
theorem PW.set {k:Nat}{W:List (List Nat)} (h:PW k W) {w:List Nat} (q:GW k w) (i:Nat):PW k (W.set i w):=fun x hx=>by
 rcases List.mem_or_eq_of_mem_set hx with z | z
 ·exact h x z
 ·rw[z];exact q
theorem PW.take {k:Nat}{W:List (List Nat)} (h:PW k W) (i:Nat):PW k (W.take i):=fun x hx=>h x (List.mem_of_mem_take hx)
theorem PW.app {k:Nat}{V W:List (List Nat)} (h:PW k V) (q:PW k W):PW k (V++W):=fun x hx=>(List.mem_append.mp hx).elim (h x) (q x)
theorem PW.one {k:Nat}{w:List Nat} (h:GW k w):PW k [w]:=fun x hx=>by rw[List.mem_singleton.mp hx];exact h
theorem PW.join {k c:Nat}{W:List (List Nat)} (h:PW k W) (hc:N6 c):GW (k*W.length+W.length) (a9 [c] W):=by
 refine⟨fun x hx=>?_,?_⟩
 ·rcases jn hx with z | ⟨w,hw,z⟩
  ·rw[List.mem_singleton.mp z];exact hc
  ·exact (h w hw).1 x z
 ·have h1:=d8 (k:=k) fun w hw=>(h w hw).2
  have h2:∀ l:List (List Nat),(a9 [c] l).length<=bf l+l.length:=by
   intro l
   induction l with
   | nil=>exact Nat.le_refl _
   | cons x r ih=>
    cases r with
    | nil=>simp[de,cg,aX,cM,bj]
    | cons y r'=>
     rw[a9]
     ·simp only[List.length_append,bf,List.length_cons,List.length_nil] at ih ⊢;lia
     ·simp
  have h3:=h2 W
  lia
theorem PW.guard {k:Nat}{W:List (List Nat)} (h:PW k W) (hk:k<=100) (hl:W.length<=100) (s:List Nat) (hs:s.length<=100):bf W+s.length*W.length<=lim:=by
 have h1:=d8 (k:=k) fun w hw=>(h w hw).2
 have h2:k*W.length<=100*100:=Nat.mul_le_mul hk hl
 have h3:s.length*W.length<=100*100:=Nat.mul_le_mul hs hl
 show _<=1000000
 lia
theorem sum_set:∀ (W:List (List Nat)) (i:Nat) (w:List Nat),bf (W.set i w)<=bf W+w.length
 | [],i,w=>by simp[cM,bj]
 | x::r,0,w=>by rw[List.set_cons_zero,bj,bj];lia
 | x::r,i+1,w=>by
  have:=sum_set r i w
  rw[List.set_cons_succ,bj,bj];lia
theorem vY {v:Nat} (h:v<512):GW 3 (bG (v:Int)):=by
 have:∀ v:Fin 512,(∀ c∈bG ((v.1:Nat):Int),c<128/\c≠10)/\(bG ((v.1:Nat):Int)).length<=3:=by decide +kernel
 exact this ⟨v,h⟩
theorem uz {c:Nat}:∀ l:List (List Nat),(a9 [c] l).length<=bf l+l.length
 | []=>Nat.le_refl _
 | [x]=>by simp[de,cg,aX,cM,bj]
 | x::y::r=>by
  have:=uz (c:=c) (y::r)
  rw[a9]
  ·simp only[List.length_append,bf,List.length_cons,List.length_nil] at this ⊢;lia
  ·simp
theorem vZ {c:Nat} (h:N6 c):GW 1 [c]:=⟨fun x hx=>by rw[List.mem_singleton.mp hx];exact h,Nat.le_refl _⟩
theorem N7:∀ {l:List (List Nat)}{x:List Nat},bf (l++[x])=bf l+x.length:=by
 intro z0
 induction z0 with
 | nil=>exact fun {x}=>(Nat.add_comm _ _)
 | cons a l ih=>exact fun {x}=>by rw[List.cons_append,bj,bj,ih,Nat.add_assoc]
def Out (J:Ρ) (a:Nat) (Q:List (List Nat)->Prop) (z:SR):Prop:=∃ W,z=.next (J.set a (some (.list (W.map V.str))))/\Q W
theorem yo {n:Nat}{four:List Nat} (h4:four.length=4) (hf:∀ x∈four,x<256) (m:Nat):∃ t,ae defs (n+1) .gb [vi m,.list (vl four)]=.ok (.str t)/\GW 20 t:=by
 generalize hW:(four.map fun n:Nat=>bG n)=W
 have wZ:W.length=4:=by rw[<- hW,List.length_map,h4]
 have N8:PW 3 W:=fun w hw=>by
  rw[<- hW] at hw
  obtain⟨x,hx,rfl⟩:=List.mem_map.mp hw
  exact vY (Nat.lt_trans (hf x hx) (by decide))
 have WD:bf W<=12:=by have:=d8 (k:=3) fun w hw=>(N8 w hw).2;rwa [wZ] at this
 have e0:bQ (ae defs n) oP [some (vi m),some (.list (vl four)),none,none,none,none]=.next [some (vi m),some (.list (vl four)),some (.list (W.map V.str)),none,none,none]:=by
  refine (S.own (E.map (f:=fun x=>match x with | .int i=>.str (bG i) | _=>.none) (xs:=vl four) (by kernel_rfl) (by rw[List.length_map,h4];decide) fun x hx=>?_)).trans ?_
  ·obtain⟨y,hy,rfl⟩:=List.mem_map.mp hx
   exact E.prim (E.one rfl) (e8 (gL (Nat.lt_trans (hf y hy) (by decide))) rfl)
  ·rw[<- hW,List.map_map,List.map_map];rfl
 obtain⟨k,hk⟩:∃ k,k=m % 12:=⟨_,rfl⟩
 obtain⟨i,X3,hi⟩:∃ i,i<4/\i=m / 12 % 4:=⟨_,Nat.mod_lt _ (by decide),rfl⟩
 have e1:bQ (ae defs n) oQ [some (vi m),some (.list (vl four)),some (.list (W.map V.str)),none,none,none]=.next [some (vi m),some (.list (vl four)),some (.list (W.map V.str)),some (vi k),none,none]:=
  S.assign (v:=vi k) (E.bin rfl rfl (congrArg (fun x=>R.ok (V.int x)) ((Nm m).trans (by rw[hk]))))
 have e2:bQ (ae defs n) oR [some (vi m),some (.list (vl four)),some (.list (W.map V.str)),some (vi k),none,none]=.next [some (vi m),some (.list (vl four)),some (.list (W.map V.str)),some (vi k),some (vi i),none]:=
  S.assign (v:=vi i) (E.bin (E.bin rfl rfl (congrArg (fun x=>R.ok (V.int x)) (Nk m))) rfl (congrArg (fun x=>R.ok (V.int x)) ((Q1 _).trans (by rw[hi]))))
 have Ub:i<W.length:=by rw[wZ];exact X3
 obtain⟨w,hw⟩:∃ w,W[i]?=some w:=⟨_,List.getElem?_eq_getElem Ub⟩
 have VY:=N8 _ (List.mem_of_getElem? hw)
 obtain⟨x,hx⟩:∃ x,four[i]?=some x:=⟨_,List.getElem?_eq_getElem (by rw[h4];exact X3)⟩
 have Qa:=hf x (List.mem_of_getElem? hx)
 generalize Il:([some (vi m),some (.list (vl four)),some (.list (W.map V.str)),some (vi k),some (vi i),none]:Ρ)=J
 have l2:ak (ae defs n) (.loc 2) J=.ok (.list (W.map V.str)):=by rw[<- Il];rfl
 have l3:ak (ae defs n) (.loc 3) J=.ok (vi k):=by rw[<- Il];rfl
 have l4:ak (ae defs n) (.loc 4) J=.ok (vi i):=by rw[<- Il];rfl
 have at_:ak (ae defs n) (.idx (.loc 2) (.loc 4)) J=.ok (.str w):=E.idx l2 l4 rfl (ej (by rw[List.getElem?_map,hw];rfl))
 have put:∀ {e:PE}{v:List Nat},ak (ae defs n) e J=.ok (.str v)->GW 4 v->Out J 2 (fun W'=>PW 4 W'/\bf W'+W'.length<=20) (aj (ae defs n) (.cons (.setItem 2 (.loc 4) e) .nil) J):=fun he hv=>
  ⟨_,S.Je he l2 l4 Ub,PW.set (fun x hx=>(N8 x hx).mono (by decide)) hv i,by
   rw[List.length_set,wZ]
   exact Nat.add_le_add (Nat.le_trans (sum_set W i _) (Nat.add_le_add WD hv.2)) (Nat.le_refl 4)⟩
 have X4:∀ {a b:Nat},a<=3->b<=3->a+b<=1000000:=fun h1 h2=>Nat.le_trans (Nat.add_le_add h1 h2) (by decide)
 have pre:∀ c,N6 c->Out J 2 (fun W'=>PW 4 W'/\bf W'+W'.length<=20) (aj (ae defs n) (.cons (.setItem 2 (.loc 4) (.bin .add (.const (.str [c])) (.idx (.loc 2) (.loc 4)))) .nil) J):=fun c hc=>
  put (E.bin rfl at_ (adds (X4 (show 1<=3 by decide) VY.2))) ((vZ hc).app VY)
 obtain⟨W',e3,hp,hs⟩:Out J 2 (fun W'=>PW 4 W'/\bf W'+W'.length<=20) (bQ (ae defs n) oS J):=by
  refine S.bW l3 (pre 48 ⟨by decide,by decide⟩) (S.elif (S.bW l3 ?_ (S.elif (S.bW l3 ?_ (S.elif (S.bW l3 ?_ (S.elif (S.bW l3 ?_ (S.elif (S.bW l3 (pre 32 ⟨by decide,by decide⟩) (S.elif (S.bW l3 ?_ (S.elif (S.bW l3 (pre 43 ⟨by decide,by decide⟩) ?_))))))))))))))
  ·exact put (E.prim (E.one (E.bin (E.idx (by rw[<- Il];rfl) l4 rfl (ej (xs:=vl four) (v:=vi x) (by rw[List.getElem?_map,hx];rfl))) rfl rfl)) (e8 (gL (n:=x+256) (Nat.lt_of_lt_of_le (Nat.add_lt_add_right Qa 256) (by decide))) rfl)) ((vY (v:=x+256) (Nat.add_lt_add_right Qa 256)).mono (by decide))
  ·exact put (v:=[]) rfl ⟨fun c hc=>(by contradiction),Nat.zero_le _⟩
  ·refine⟨W++[[55]],?_,PW.app (fun x hx=>(N8 x hx).mono (by decide)) (.one ((vZ ⟨by decide,by decide⟩).mono (by decide))),?_⟩
   ·rw[S.last,S.append (xs:=W.map V.str) (v:=.str [55]) (by rw[<- Il];rfl) rfl (by rw[List.length_map,wZ];decide) rfl,List.map_append];rfl
   ·rw[N7,List.length_append,wZ];exact Nat.le_trans (Nat.add_le_add (Nat.add_le_add WD (Nat.le_refl 1)) (Nat.le_refl 5)) (by decide)
  ·have Uc:aO (.list (W.map V.str)) .none (.int 3)=.ok (.list ((W.take 3).map V.str)):=by
    have:=fF (W.map V.str) 3
    rw[<- List.map_take] at this
    exact this
   refine⟨W.take 3,by rw[S.last,S.own (E.slice l2 rfl rfl rfl Uc)],PW.take (fun x hx=>(N8 x hx).mono (by decide)) 3,?_⟩
   have:=d8 (k:=3) (l:=W.take 3) fun w hw=>(N8 w (List.mem_of_mem_take hw)).2
   rw[List.length_take,wZ] at this ⊢
   exact Nat.le_trans (Nat.add_le_add this (Nat.le_refl _)) (by decide)
  ·exact put (E.bin at_ rfl (adds (X4 VY.2 (show 1<=3 by decide)))) (VY.app (vZ ⟨by decide,by decide⟩))
  ·exact⟨W,by rw[<- Il];rfl,fun x hx=>(N8 x hx).mono (by decide),by rw[wZ];exact Nat.add_le_add (Nat.le_trans WD (by decide:12<=16)) (Nat.le_refl 4)⟩
 refine⟨a9 [46] W',?_,(hp.join (c:=46) ⟨by decide,by decide⟩).1,Nat.le_trans (uz W') hs⟩
 rw[<- Il] at e3
 refine S.val (p:=t9) (S.seq e0 (S.seq e1 (S.seq e2 (S.seq e3 (S.end (S.ret ?_))))))
 exact E.aG rfl rfl (E.one rfl) ((jd [46] W').trans (e8 (by show _+1*_<=1000000;lia) rfl))
noncomputable abbrev Dc:List Nat:=[48,49,50,51,52,53,54,55,56,57,97,98,99,100,101,102,65,66,67,68,69,70,58,58,58,46,46,46,37,103,120,32,43,45,95]
theorem nX {D:Fn->List V->R V}{N:Option V}{r:Nat}{t:List Nat}:(ak D (.and (.cmp .gt (.loc 1) (.const (.int 0))) (.cmp .lt (.prim .len (.cons (.loc 2) .nil)) (.const (.int 45)))) [N,some (vi r),some (.str t)]).bind V.truth=.ok (decide (0<r)&&decide (t.length<45)):=
 C.ok (C.and (E.cmp rfl rfl (bZ (fP 0 r))) (E.cmp (E.prim (E.one rfl) rfl) rfl (bZ (fP t.length 45))))
theorem Hb {D:Fn->List V->R V}{N:Option V}{r:Nat}{t:List Nat} (h0:0<r) (hl:t.length<45):∃ c,aj D nB [N,some (vi r),some (.str t)]=.next [N,some (vi ((r - 1) / 35)),some (.str (t++[c]))]/\N6 c:=by
 have hm:(r - 1) % 35<Dc.length:=Nat.mod_lt _ (by decide)
 refine⟨Dc[(r - 1) % 35],?_,(by decide:∀ c∈Dc,c<128/\c≠10) _ (List.getElem_mem hm)⟩
 have e1:bQ D (.assign 1 (.bin .sub (.loc 1) (.const (.int 1)))) [N,some (vi r),some (.str t)]=.next [N,some (vi (r - 1)),some (.str t)]:=S.assign (v:=vi (r - 1)) (E.bin rfl rfl (qJ (Int.ofNat_sub h0).symm))
 have e2:ak D (.prim .len (.cons (.glob dT) .nil)) [N,some (vi (r - 1)),some (.str t)]=.ok (.int 35):=by kernel_rfl
 refine S.seq e1 (S.seq (S.assign (v:=.str (t++[Dc[(r - 1) % 35]])) (E.bin rfl (E.idx rfl (E.bin rfl e2 (qJ (lY (r - 1) 35))) rfl (vH (List.getElem?_eq_getElem hm))) (adds (Nat.le_trans (Nat.add_le_add_right (Nat.le_of_lt hl) 1) (by decide))))) (S.one (S.assign (v:=vi ((r - 1) / 35)) (E.bin rfl (by kernel_rfl:_=R.ok (.int 35)) (qJ (xG (r - 1) 35))))))
theorem Bc {D:Fn->List V->R V}{N:Option V}:∀ (k f r:Nat) (t:List Nat),t.length+k=45->GW 45 t->
  ∃ r' t',dk (fun J=>(ak D (.and (.cmp .gt (.loc 1) (.const (.int 0))) (.cmp .lt (.prim .len (.cons (.loc 2) .nil)) (.const (.int 45)))) J).bind V.truth) (aj D nB) (f+k+1) [N,some (vi r),some (.str t)]=.next [N,some r',some (.str t')]/\GW 45 t':=by
 intro z0
 induction z0 with
 | zero=>
  exact fun f r t hk ht=>⟨vi r,t,W.stop (nX.trans (congrArg R.ok (by rw[show t.length=45 from hk];exact Bool.and_false _))),ht⟩
 | succ k ih=>
  intro f r t hk ht
  cases hc:decide (0<r)&&decide (t.length<45) with
  | false=>exact⟨vi r,t,W.stop (nX.trans (congrArg R.ok hc)),ht⟩
  | true=>
   have h:=Bool.and_eq_true_iff.mp hc
   refine Exists.elim (Hb (D:=D) (N:=N) (of_decide_eq_true h.1) (of_decide_eq_true h.2)) fun c zz=>aB zz fun hb ok=>?_
   have hl:(t++[c]).length+k=45:=by rw[List.length_append];exact (Nat.add_right_comm _ _ _).trans hk
   refine bT (ih f ((r - 1) / 35) (t++[c]) hl ⟨(ht.app (vZ ok)).1,Nat.le_trans (Nat.le_add_right _ _) (Nat.le_of_eq hl)⟩) fun r' t' zz=>aB zz fun e Zb=>?_
   exact⟨r',t',W.turn (nX.trans (congrArg R.ok hc)) hb e,Zb⟩
theorem Rn {n:Nat} (z:Int):∃ t,ae defs (n+1) .qh [.int z]=.ok (.str t)/\GW 45 t:=by
 refine Exists.elim (xH z (35 ^ 46) (Nat.pow_pos (by decide))) fun r zz=>aB zz fun hr O=>?_
 refine bT (Bc (D:=ae defs n) (N:=some (.int z)) 45 99954 r [] rfl ⟨fun c hc=>(by contradiction),Nat.zero_le _⟩) fun r' t' zz=>aB zz fun e ht=>?_
 exact⟨t',S.val (p:=CX) (S.seq (J:=[some (.int z),none,none]) (S.assign (v:=vi r) (E.bin (y:=.int ((35 ^ 46:Nat):Int)) rfl (by kernel_rfl) (e8 (c:=(0:Int)<((35 ^ 46:Nat):Int)) (by decide) (qJ hr)))) (S.seq (S.assign rfl) (S.seq e (S.end (S.ret rfl))))),ht⟩
noncomputable def J7:List Nat:=[48,49,50,51,52,53,54,55,56,57,65,66,67,68,69,70]
theorem Dd:∀ c∈gx,N6 c:=(by decide:∀ c∈gx,c<128/\c≠10)
theorem J8:∀ c∈J7,N6 c:=(by decide:∀ c∈J7,c<128/\c≠10)
theorem De {sg:List Nat} (VZ:16<=sg.length) (Im:∀ c∈sg,N6 c) (n w k:Nat):GW k (dx sg w k n []):=⟨fun c hc=>(ub VZ k n [] c hc).elim (fun h=>by contradiction) fun h=>Im c (List.mem_of_mem_take h),by have:=Gh (sg:=sg) (w:=w) k n [];rwa [List.length_nil,Nat.zero_add] at this⟩
theorem N9 {α β:Type} (f:α->β) (l:List α) (a b:Nat):cut (l.map f) a b=(cut l a b).map f:=by unfold cut;rw[List.map_take,List.map_drop]
theorem Df {α:Type}{l:List α}{a b:Nat}{x:α} (h:x∈cut l a b):x∈l:=List.mem_of_mem_drop (List.mem_of_mem_take h)
theorem J9 {α:Type} (l:List α) (a b:Nat):(cut l a b).length<=l.length:=by
 unfold cut;rw[List.length_take,List.length_drop];exact Nat.le_trans (Nat.min_le_right _ _) (Nat.sub_le _ _)
theorem Oa {t:List Nat}{u v:V}{x y:Nat} (hx:bound t.length 0 u=some x) (hy:bound t.length t.length v=some y):aO (.str t) u v=.ok (.str (cut t x y)):=by
 show (match bound t.length 0 u,bound t.length t.length v with | some a,some b=>R.ok (V.str (cut t a b)) | _,_=>.stuck)=_
 rw[hx,hy]
theorem Ob {t:List V}{u v:V}{x y:Nat} (hx:bound t.length 0 u=some x) (hy:bound t.length t.length v=some y):aO (.list t) u v=.ok (.list (cut t x y)):=by
 show (match bound t.length 0 u,bound t.length t.length v with | some a,some b=>R.ok (V.list (cut t a b)) | _,_=>.stuck)=_
 rw[hx,hy]
section
variable {D:Fn->List V->R V}{J:Ρ}
def GE (D:Fn->List V->R V) (J:Ρ) (k:Nat) (e:PE):Prop:=∃ t,ak D e J=.ok (.str t)/\GW k t
def WE (D:Fn->List V->R V) (J:Ρ) (k n:Nat) (e:PE):Prop:=∃ W,ak D e J=.ok (.list (W.map V.str))/\PW k W/\W.length<=n
def BE (D:Fn->List V->R V) (J:Ρ) (e:PE):Prop:=∃ v,ak D e J=.ok v/\∀ n d,∃ a,bound n d v=some a
theorem BE.no:BE D J (.const .none):=⟨.none,rfl,fun n d=>⟨d,rfl⟩⟩
theorem BE.num {e:PE}{i:Int} (h:ak D e J=.ok (.int i)):BE D J e:=⟨_,h,fun n d=>⟨_,rfl⟩⟩
theorem GE.lit {k:Nat}{s:List Nat} (h:(s.all (fun c=>decide (c<128)&&decide (c≠10))&&decide (s.length<=k))=true):GE D J k (.const (.str s)):=by
 rw[Bool.and_eq_true,List.all_eq_true] at h
 exact⟨s,rfl,fun c hc=>by have:=h.1 c hc;rw[Bool.and_eq_true] at this;exact⟨of_decide_eq_true this.1,of_decide_eq_true this.2⟩,of_decide_eq_true h.2⟩
theorem GE.add {aaH k m:Nat}{a b:PE} (h:GE D J aaH a) (g:GE D J k b) (hm:aaH+k<=m/\m<=1000000):GE D J m (.bin .add a b):=by
 refine Exists.elim h fun s zz=>aB zz fun e hs=>?_
 refine Exists.elim g fun t zz=>aB zz fun f ht=>?_
 exact⟨s++t,E.bin e f (adds (Nat.le_trans (Nat.add_le_add hs.2 ht.2) (Nat.le_trans hm.1 hm.2))),(hs.app ht).mono hm.1⟩
theorem GE.join {k n m:Nat}{e:PE} (h:WE D J k n e) (hk:k<=100/\n<=100/\k*n+n<=m):GE D J m (.aG .join (.const (.str [58])) (.cons e .nil)):=by
 refine Exists.elim h fun W zz=>b5 zz fun e p l=>?_
 have hl:=Nat.le_trans l hk.2.1
 exact⟨a9 [58] W,E.aG rfl rfl (E.one e) ((jd [58] W).trans (e8 (p.guard hk.1 hl [58] (by decide)) rfl)),(p.join ⟨by decide,by decide⟩).mono (Nat.le_trans (Nat.add_le_add (Nat.mul_le_mul_left k l) l) hk.2.2)⟩
theorem GE.slice {k:Nat}{e lo hi:PE} (h:GE D J k e) (a:BE D J lo) (b:BE D J hi):GE D J k (.slice e lo hi):=by
 refine Exists.elim h fun t zz=>aB zz fun e ht=>?_
 refine Exists.elim a fun u zz=>aB zz fun ea ha=>?_
 refine Exists.elim b fun v zz=>aB zz fun eb hb=>?_
 refine Exists.elim (ha t.length 0) fun x hx=>?_
 refine Exists.elim (hb t.length t.length) fun y hy=>?_
 exact⟨cut t x y,E.slice e ea eb (Bool.or_true _) (Oa hx hy),fun c hc=>ht.1 c (Df hc),Nat.le_trans (J9 _ _ _) ht.2⟩
theorem WE.slice {k n i:Nat}{lo hi:PE} (h:WE D J k n (.loc i)) (a:BE D J lo) (b:BE D J hi):WE D J k n (.slice (.loc i) lo hi):=by
 refine Exists.elim h fun t zz=>b5 zz fun e hp hl=>?_
 refine Exists.elim a fun u zz=>aB zz fun ea ha=>?_
 refine Exists.elim b fun v zz=>aB zz fun eb hb=>?_
 refine Exists.elim (ha (t.map V.str).length 0) fun x hx=>?_
 refine Exists.elim (hb (t.map V.str).length (t.map V.str).length) fun y hy=>?_
 exact⟨cut t x y,E.slice e ea eb rfl ((Ob hx hy).trans (by rw[N9])),fun c hc=>hp c (Df hc),Nat.le_trans (J9 _ _ _) hl⟩
theorem WE.add {k n m:Nat}{a b:PE} (h:WE D J k n a) (g:WE D J k m b) (hm:n+m<=1000000):WE D J k (n+m) (.bin .add a b):=by
 refine Exists.elim h fun s zz=>b5 zz fun e p l=>?_
 refine Exists.elim g fun t zz=>b5 zz fun f q r=>?_
 refine⟨s++t,E.bin e f ?_,p.app q,by rw[List.length_append];exact Nat.add_le_add l r⟩
 rw[List.map_append]
 exact e8 (show _<=lim by rw[List.length_map,List.length_map];exact Nat.le_trans (Nat.add_le_add l r) hm) rfl
def Ka (J:Ρ) (a k:Nat) (z:SR):Prop:=∃ t,z=.next (J.set a (some (.str t)))/\GW k t
theorem Ka.of {a k:Nat}{e:PE} (h:GE D J k e):Ka J a k (aj D (.cons (.assign a e) .nil) J):=by
 refine Exists.elim h fun t zz=>aB zz fun e ht=>?_
 exact⟨t,S.last.trans (S.assign e),ht⟩
end
theorem draw {n:Nat} (xs:List Int) (p:Nat) (hp:p<33) (K:Nat) (hK:0<K/\K<1000000000):∃ m,m<K/\∀ (J:Ρ) (e:PE),ak (ae defs (n+1)) (.loc 0) J=.ok (.list (xs.map V.int))->ak (ae defs (n+1)) e J=.ok (vi p)->
  ak (ae defs (n+1)) (.bin .mod (.call .qf (.cons (.loc 0) (.cons e .nil))) (.const (.int K))) J=.ok (vi m):=by
 refine Exists.elim (PR (n:=n) xs p hp) fun z hz=>?_
 refine Exists.elim (xH z K hK.1) fun m zz=>aB zz fun hm hJ=>?_
 exact⟨m,hJ,fun J e h0 h1=>E.bin (E.call (E.two h0 h1) hz) rfl (e8 (c:=(0:Int)<(K:Int)) (Int.ofNat_lt.mpr hK.1) (qJ hm))⟩
theorem Oc (a b:Nat):(if (b:Int)<(a:Int) then (b:Int) else (a:Int))=((min a b:Nat):Int):=by split<;>lia
theorem Od (a b:Nat):(if (a:Int)<(b:Int) then (b:Int) else (a:Int))=((max a b:Nat):Int):=by split<;>lia
noncomputable def spS (X:Nat->Option V) (a b c d:Option V):Ρ:=[X 0,X 1,X 2,X 3,X 4,X 5,X 6,X 7,a,X 9,X 10,X 11,X 12,b,c,d,X 16]
theorem Bd {n:Nat}{X:Nat->Option V}{v k:Nat}{acc:List (List Nat)}{d:Option V} (hv:v<65536) (hl:acc.length<1000) :
  ∃ w s,aj (ae defs (n+1)) iu (spS X (some (vi k)) (some (.list (acc.map V.str))) (some (vi v)) d)=.next (spS X (some (vi (k / 8))) (some (.list ((acc++[w]).map V.str))) (some (vi v)) s)/\GW 4 w:=by
 have fin:∀ {sg:List Nat}{J:Ρ},J=spS X (some (vi k)) (some (.list (acc.map V.str))) (some (vi v)) (some (.str sg))->16<=sg.length->(∀ c∈sg,N6 c)->
   ∃ w s,aj (ae defs (n+1)) (.cons (.append 13 (.call .iJ (.cons (.loc 14) (.cons (.bin .add (.bin .mod (.bin .fdiv (.loc 8) (.const (.int 2))) (.const (.int 4))) (.const (.int 1))) (.cons (.loc 15) .nil))))) (.cons (.assign 8 (.bin .fdiv (.loc 8) (.const (.int 8)))) .nil)) J=.next (spS X (some (vi (k / 8))) (some (.list ((acc++[w]).map V.str))) (some (vi v)) s)/\GW 4 w:=fun {sg J} h VZ Im=>by
  refine⟨dx sg (k / 2 % 4+1) 4 v [],some (.str sg),?_,De VZ Im v _ 4⟩
  have hd:ak (ae defs (n+1)) (.bin .add (.bin .mod (.bin .fdiv (.loc 8) (.const (.int 2))) (.const (.int 4))) (.const (.int 1))) J=.ok (vi (k / 2 % 4+1)):=
   E.bin (E.sZ 4 (E.iN 2 (m:=k) (by rw[h];rfl))) rfl rfl
  have hc:ak (ae defs (n+1)) (.call .iJ (.cons (.loc 14) (.cons (.bin .add (.bin .mod (.bin .fdiv (.loc 8) (.const (.int 2))) (.const (.int 4))) (.const (.int 1))) (.cons (.loc 15) .nil)))) J=.ok (.str (dx sg (k / 2 % 4+1) 4 v [])):=
   E.call (vs:=[vi v,vi (k / 2 % 4+1),.str sg]) (E.more (show ak (ae defs (n+1)) (.loc 14) J=.ok (vi v) by rw[h];rfl) (E.two hd (by rw[h];rfl))) (AI v _ 4 VZ hv (Nat.succ_le_of_lt (Nat.mod_lt _ (by decide))) (by decide))
  refine S.seq (S.append (by rw[h];rfl) hc (by rw[List.length_map];exact Nat.lt_trans hl (by decide)) rfl) (S.one (S.assign (E.iN 8 (m:=k) (by rw[h];rfl))) |>.trans ?_)
  rw[h,List.map_append];rfl
 have e0:bQ (ae defs (n+1)) (.assign 15 (.glob cN)) (spS X (some (vi k)) (some (.list (acc.map V.str))) (some (vi v)) d)=.next (spS X (some (vi k)) (some (.list (acc.map V.str))) (some (vi v)) (some (.str gx))):=rfl
 have ec:ak (ae defs (n+1)) (.cmp .eq (.bin .mod (.loc 8) (.const (.int 2))) (.const (.int 1))) (spS X (some (vi k)) (some (.list (acc.map V.str))) (some (vi v)) (some (.str gx)))=.ok (.bool (decide (k % 2=1))):=
  E.cmp (E.bin rfl rfl (qJ (Q0 k))) rfl (bZ (e7 (k % 2) 1))
 by_cases h:k % 2=1
 ·refine bT (fin (sg:=J7) rfl (by decide) J8) fun w s zz=>aB zz fun q g=>?_
  exact⟨w,s,S.seq e0 (S.seq ((S.aE ec (decide_eq_true h)).trans (S.one (S.assign rfl))) q),g⟩
 ·refine bT (fin (sg:=gx) rfl (by decide) Dd) fun w s zz=>aB zz fun q g=>?_
  exact⟨w,s,S.seq e0 (S.seq ((S.cO ec (decide_eq_false h)).trans rfl) q),g⟩
theorem Hd {n:Nat}{X:Nat->Option V}:∀ (gs:List Nat) (k:Nat) (acc:List (List Nat)) (c d:Option V),(∀ x∈gs,x<65536)->acc.length+gs.length<=1000->PW 4 acc->
  ∃ W a b c',dg 14 (aj (ae defs (n+1)) iu) (vl gs) (spS X (some (vi k)) (some (.list (acc.map V.str))) c d)=.next (spS X a (some (.list (W.map V.str))) b c')/\PW 4 W/\W.length=acc.length+gs.length:=by
 intro z0
 induction z0 with
 | nil=>
  exact fun k acc c d O O hp=>⟨acc,some (vi k),c,d,rfl,hp,rfl⟩
 | cons v r ih=>
  intro k acc c d hg hl hp
  refine bT (Bd (n:=n) (X:=X) (k:=k) (acc:=acc) (d:=d) (hg v (.head _)) (Nat.lt_of_lt_of_le (Nat.lt_add_of_pos_right (Nat.succ_pos _)) hl)) fun w s zz=>aB zz fun hb hw=>?_
  have e1:(acc++[w]).length+r.length=acc.length+(v::r).length:=by rw[List.length_append,List.length_cons (a:=v),Nat.add_assoc,Nat.add_comm r.length];rfl
  refine kK (ih (k / 8) (acc++[w]) (some (vi v)) s (fun x hx=>hg x (.tail _ hx)) (by rw[e1];exact hl) (PW.app hp (.one hw))) fun W a b c' zz=>b5 zz fun e hW wZ=>?_
  exact⟨W,a,b,c',F.cons hb e,hW,by rw[wZ,e1]⟩
section
variable {n:Nat}{J:Ρ}
theorem yq {g:List Nat} (G:ng g) {W:List (List Nat)} (hW:PW 4 W) (hl:W.length=8) {k i:Nat} (hi:i<8) (l2:ak (ae defs (n+1)) (.loc 2) J=.ok (.list (vl g))) (l9:ak (ae defs (n+1)) (.loc 9) J=.ok (vi k)) (l10:ak (ae defs (n+1)) (.loc 10) J=.ok (vi i))
  (V0:ak (ae defs (n+1)) (.loc 13) J=.ok (.list (W.map V.str))) (hs:J.set 13 (some (.list (W.map V.str)))=J):Out J 13 (fun W'=>PW 20 W'/\W'.length=8) (bQ (ae defs (n+1)) kg J):=by
 have Ub:i<W.length:=by rw[hl];exact hi
 obtain⟨w,hw⟩:∃ w,W[i]?=some w:=⟨_,List.getElem?_eq_getElem Ub⟩
 obtain⟨x,hx⟩:∃ x,g[i]?=some x:=⟨_,List.getElem?_eq_getElem (by rw[G.len];exact hi)⟩
 have Ro:=G.lt x (List.mem_of_getElem? hx)
 have at_:GE (ae defs (n+1)) J 4 (.idx (.loc 13) (.loc 10)):=⟨w,E.idx V0 l10 rfl (ej (by rw[List.getElem?_map,hw];rfl)),hW w (List.mem_of_getElem? hw)⟩
 have WG:ak (ae defs (n+1)) (.idx (.loc 2) (.loc 10)) J=.ok (vi x):=E.idx l2 l10 rfl (ej (by rw[List.getElem?_map,hx];rfl))
 have put:∀ {e:PE},GE (ae defs (n+1)) J 20 e->Out J 13 (fun W'=>PW 20 W'/\W'.length=8) (aj (ae defs (n+1)) (.cons (.setItem 13 (.loc 10) e) .nil) J):=fun ⟨v,he,hv⟩=>
  ⟨_,S.Je he V0 l10 Ub,PW.set (fun x hx=>(hW x hx).mono (by decide)) hv i,by rw[List.length_set,hl]⟩
 have mono:∀ {k:Nat}{e:PE},GE (ae defs (n+1)) J k e->k<=20->GE (ae defs (n+1)) J 20 e:=fun ⟨t,a,b⟩ h=>⟨t,a,b.mono h⟩
 refine S.bW l9 (put ?_) (S.elif (S.bW l9 (put ?_) (S.elif (S.bW l9 (put ⟨[],rfl,fun c hc=>(by contradiction),Nat.zero_le _⟩) (S.elif (S.bW l9 (put (mono (GE.add (m:=5) (GE.lit (k:=1) (by decide)) at_ (by decide)) (by decide))) (S.elif (S.bW l9 (put ?_) ⟨W,?_,fun x hx=>(hW x hx).mono (by decide),hl⟩))))))))
 ·exact⟨_,E.call (vs:=[vi x,vi 5,.str gx]) (E.more WG rfl) (AI (m:=n) (sg:=gx) x 5 5 (by decide) (Nat.lt_of_lt_of_le Ro (by decide)) (by decide) (by decide)),(De (by decide) Dd x 5 5).mono (by decide)⟩
 ·exact mono (GE.add (m:=5) (GE.slice at_ (BE.num rfl) BE.no) (GE.lit (k:=1) (by decide)) (by decide)) (by decide)
 ·have JX:∀ y∈aJ [x,x],y<256:=cW [x,x] (fun y hy=>by rcases List.mem_cons.mp hy with q | q;rw[q];exact Ro;rw[List.mem_singleton.mp q];exact Ro)
  refine⟨bO (aJ [x,x]),E.call (E.one (E.call (E.one (E.lst (E.two WG WG))) (vJ x x))) (vI _ (by decide:(4:Nat)<=100) fun y hy=>Nat.lt_trans (JX y hy) (by decide)),fun c hc=>?_,Nat.le_trans (mn (JX _ (.head _)) (JX _ (.tail _ (.head _))) (JX _ (.tail _ (.tail _ (.head _)))) (JX _ (.tail _ (.tail _ (.tail _ (.head _)))))) (by decide)⟩
  rcases jn hc with h | ⟨v,hv,h⟩
  ·rw[List.mem_singleton.mp h];exact⟨by decide,by decide⟩
  ·refine Exists.elim (List.mem_map.mp hv) fun y zz=>aB zz fun hy av=>?_;clear zz;subst av
   exact (vY (Nat.lt_trans (JX y hy) (by decide))).1 c h
 ·rw[hs];rfl
theorem Be {g:List Nat} (G:ng g) {W:List (List Nat)} (hW:PW 20 W) (hl:W.length=8) {k:Nat} (l2:ak (ae defs (n+1)) (.loc 2) J=.ok (.list (vl g))) (X5:ak (ae defs (n+1)) (.loc 12) J=.ok (vi k))
  (V0:ak (ae defs (n+1)) (.loc 13) J=.ok (.list (W.map V.str))) (hs:J.set 13 (some (.list (W.map V.str)))=J):Out J 13 (fun W'=>PW 20 W'/\W'.length<=8) (bQ (ae defs (n+1)) kj J):=by
 refine S.qI (p:=k % 2=1) (E.cmp (E.sZ 2 X5) rfl (bZ (e7 (k % 2) 1))) (fun O=>?_) fun O=>⟨W,by rw[hs];rfl,hW,Nat.le_of_eq hl⟩
 refine bT G.tail fun p q zz=>b5 zz fun ht hp hq=>?_
 refine Exists.elim (yo (n:=n) (four:=aJ [p,q]) rfl (cW [p,q] (fun y hy=>by rcases List.mem_cons.mp hy with z | z;rw[z];exact hp;rw[List.mem_singleton.mp z];exact hq)) (k / 2)) fun d zz=>aB zz fun hd Ud=>?_
 have Wt:aO (.list (vl g)) (.int 6) .none=.ok (.list (vl [p,q])):=by
  have:=fG (vl g) 6
  rw[<- List.map_drop,ht] at this
  exact this
 have Zc:aO (.list (W.map V.str)) .none (.int 6)=.ok (.list ((W.take 6).map V.str)):=by
  have:=fF (W.map V.str) 6
  rw[<- List.map_take] at this
  exact this
 have h7:(W.take 6++[d]).length=7:=by rw[List.length_append,List.length_take,hl];rfl
 refine⟨W.take 6++[d],S.last.trans (S.own (E.bin (E.slice V0 rfl rfl rfl Zc) (y:=.list [.str d]) ?_ ?_)),PW.app (hW.take 6) (.one Ud),by rw[h7];decide⟩
 ·exact E.lst (E.one (E.call (E.two (E.iN 2 X5) (E.call (E.one (E.slice (l:=.int 6) (h:=.none) l2 rfl rfl rfl Wt)) (vJ p q))) hd))
 ·rw[List.map_append]
  exact e8 (show _<=lim by rw[<- List.length_append,show ([V.str d]:List V)=[d].map V.str from rfl,<- List.map_append,List.length_map,h7];decide) rfl
theorem Bf {kind one two lo hi:Nat} (P9:WE (ae defs (n+1)) J 20 8 (.loc 13)) (l3:ak (ae defs (n+1)) (.loc 3) J=.ok (vi kind)) (l4:ak (ae defs (n+1)) (.loc 4) J=.ok (vi one)) (l5:ak (ae defs (n+1)) (.loc 5) J=.ok (vi two))
  (l6:ak (ae defs (n+1)) (.loc 6) J=.ok (vi lo)) (l7:ak (ae defs (n+1)) (.loc 7) J=.ok (vi hi)):Ka J 16 508 (bQ (ae defs (n+1)) kl J):=by
 have a:=WE.slice P9 BE.no (BE.num l6)
 have b:=WE.slice P9 (BE.num l7) BE.no
 have c:=WE.slice P9 (BE.num l6) (BE.num l7)
 have ja:=GE.join (m:=168) a (by decide)
 have jb:=GE.join (m:=168) b (by decide)
 have jc:=GE.join (m:=168) c (by decide)
 refine S.qI (p:=(kind:Int)<2) (E.cmp l3 rfl rfl) (fun O=>.of (GE.join P9 (by decide))) fun O=>S.elif (S.qI (p:=(kind:Int)<5) (E.cmp l3 rfl rfl) (fun O=>.of (GE.add (m:=508) (GE.add (m:=170) ja (GE.lit (k:=2) (by decide)) (by decide)) jb (by decide))) fun O=>S.elif ?_)
 have e5:ak (ae defs (n+1)) (.and (.cmp .eq (.loc 3) (.const (.int 5))) (.cmp .lt (.loc 4) (.loc 5))) J=.ok (.bool (decide ((kind:Int)=5/\(one:Int)<two))):=by rw[C.and (E.cmp l3 rfl rfl) (E.cmp l4 l5 rfl)];exact bZ (Bool.decide_and _ _).symm
 refine S.qI e5 (fun O=>.of (GE.join (WE.add a b (by decide)) (by decide))) fun O=>S.elif (S.bW l3 (.of (GE.join (WE.add P9 a (by decide)) (by decide))) (S.elif (S.bW l3 (.of ?_) (.of (GE.add (m:=508) (GE.add (m:=171) ja (GE.lit (k:=3) (by decide)) (by decide)) jb (by decide))))))
 exact GE.add (m:=508) (GE.add (m:=340) (GE.add (m:=338) (GE.add (m:=170) ja (GE.lit (k:=2) (by decide)) (by decide)) jc (by decide)) (GE.lit (k:=2) (by decide)) (by decide)) jb (by decide)
theorem He {fault:Nat}{t:List Nat} (ht:GW 508 t) (l9:ak (ae defs (n+1)) (.loc 9) J=.ok (vi fault)) (WH:ak (ae defs (n+1)) (.loc 16) J=.ok (.str t)) (hs:J.set 16 (some (.str t))=J):Ka J 16 509 (bQ (ae defs (n+1)) km J):=by
 have h:GE (ae defs (n+1)) J 508 (.loc 16):=⟨t,WH,ht⟩
 exact S.bW l9 (.of (GE.add h (GE.lit (k:=1) (by decide)) (by decide))) (S.elif (S.bW l9 (.of (GE.add (GE.lit (k:=1) (by decide)) h (by decide))) ⟨t,by rw[hs];rfl,ht.mono (by decide)⟩))
theorem yr {scope:Nat}{t:List Nat} (ht:GW 509 t) (V1:ak (ae defs (n+1)) (.loc 11) J=.ok (vi scope)) (WH:ak (ae defs (n+1)) (.loc 16) J=.ok (.str t)) (hs:J.set 16 (some (.str t))=J):Ka J 16 514 (bQ (ae defs (n+1)) ko J):=by
 have h:GE (ae defs (n+1)) J 509 (.loc 16):=⟨t,WH,ht⟩
 exact S.bW V1 (.of (GE.add h (GE.lit (k:=5) (by decide)) (by decide))) (S.elif (S.bW V1 (.of (GE.add h (GE.lit (k:=5) (by decide)) (by decide))) (S.elif (S.bW V1 (.of (GE.add h (GE.lit (k:=5) (by decide)) (by decide))) (S.elif (S.bW V1 (.of (GE.add h (GE.lit (k:=5) (by decide)) (by decide))) ⟨t,by rw[hs];rfl,ht.mono (by decide)⟩))))))
end
theorem uA {n:Nat} (xs:List Int) (p:Nat) (hp:p+7<33) {g:List Nat} (G:ng g):∃ t,ae defs (n+2) .eT [.list (xs.map V.int),vi p,.list (vl g)]=.ok (.str t)/\GW 514 t:=by
 have at_:∀ aaH,aaH<=7->p+aaH<33:=fun aaH h=>Nat.lt_of_le_of_lt (Nat.add_le_add_left h p) hp
 refine Exists.elim (draw (n:=n) xs (p+0) (at_ 0 (by decide)) 8 (by decide)) fun kind zz=>aB zz fun O d0=>?_
 refine Exists.elim (draw (n:=n) xs (p+1) (at_ 1 (by decide)) 9 (by decide)) fun one zz=>aB zz fun O d1=>?_
 refine Exists.elim (draw (n:=n) xs (p+2) (at_ 2 (by decide)) 9 (by decide)) fun two zz=>aB zz fun O d2=>?_
 refine Exists.elim (draw (n:=n) xs (p+3) (at_ 3 (by decide)) 16777216 (by decide)) fun look zz=>aB zz fun O d3=>?_
 refine Exists.elim (draw (n:=n) xs (p+4) (at_ 4 (by decide)) 20 (by decide)) fun fault zz=>aB zz fun O d4=>?_
 refine Exists.elim (draw (n:=n) xs (p+5) (at_ 5 (by decide)) 8 (by decide)) fun spot zz=>aB zz fun h8 d5=>?_
 refine Exists.elim (draw (n:=n) xs (p+6) (at_ 6 (by decide)) 12 (by decide)) fun scope zz=>aB zz fun O d6=>?_
 refine Exists.elim (draw (n:=n) xs (p+7) hp 96 (by decide)) fun quad zz=>aB zz fun O d7=>?_
 obtain⟨X,hX⟩:∃ X:Nat->Option V,X=fun i=>[some (.list (xs.map V.int)),some (vi p),some (.list (vl g)),some (vi kind),some (vi one),some (vi two),some (vi (min one two)),some (vi (max one two)),none,some (vi fault),some (vi spot),some (vi scope),some (vi quad)].getD i none:=⟨_,rfl⟩
 have x2:X 2=some (.list (vl g)):=by rw[hX];rfl
 have x3:X 3=some (vi kind):=by rw[hX];rfl
 have x4:X 4=some (vi one):=by rw[hX];rfl
 have x5:X 5=some (vi two):=by rw[hX];rfl
 have x6:X 6=some (vi (min one two)):=by rw[hX];rfl
 have x7:X 7=some (vi (max one two)):=by rw[hX];rfl
 have x9:X 9=some (vi fault):=by rw[hX];rfl
 have dw:X 10=some (vi spot):=by rw[hX];rfl
 have cF:X 11=some (vi scope):=by rw[hX];rfl
 have cK:X 12=some (vi quad):=by rw[hX];rfl
 refine kK (Hd (n:=n) (X:=X) g look [] none none G.lt (by rw[G.len];decide) (fun w hw=>by contradiction)) fun W a b c zz=>b5 zz fun Wy hW wZ=>?_
 rw[List.length_nil,G.len] at wZ
 refine Exists.elim (yq (n:=n) (J:=spS X a (some (.list (W.map V.str))) b c) (k:=fault) (i:=spot) G hW wZ h8 (E.loc x2) (E.loc x9) (E.loc dw) rfl rfl) fun W2 zz=>b5 zz fun VR Zd AX=>?_
 refine Exists.elim (Be (n:=n) (J:=spS X a (some (.list (W2.map V.str))) b c) (k:=quad) G Zd AX (E.loc x2) (E.loc cK) rfl rfl) fun W3 zz=>b5 zz fun Ze N8 Zf=>?_
 refine Exists.elim (Bf (n:=n) (J:=spS X a (some (.list (W3.map V.str))) b c) (kind:=kind) (one:=one) (two:=two) (lo:=min one two) (hi:=max one two) ⟨W3,rfl,N8,Zf⟩ (E.loc x3) (E.loc x4) (E.loc x5) (E.loc x6) (E.loc x7)) fun t zz=>aB zz fun Zg ht=>?_
 refine Exists.elim (He (n:=n) (J:=(spS X a (some (.list (W3.map V.str))) b c).set 16 (some (.str t))) (fault:=fault) ht (E.loc x9) rfl rfl) fun u zz=>aB zz fun Zh hu=>?_
 refine Exists.elim (yr (n:=n) (J:=(spS X a (some (.list (W3.map V.str))) b c).set 16 (some (.str u))) (scope:=scope) hu (E.loc cF) rfl rfl) fun v zz=>aB zz fun Zi hv=>?_
 have SX:aj (ae defs (n+1)) kR [some (.list (xs.map V.int)),some (vi p),some (.list (vl g)),none,none,none,none,none,none,none,none,none,none,none,none,none,none]=aj (ae defs (n+1)) kr (spS X (some (vi look)) (some (.list (([]:List (List Nat)).map V.str))) none none):=by
  rw[hX]
  refine S.seq (S.assign (d0 _ _ (by kernel_rfl) (by kernel_rfl))) (S.seq (S.assign (d1 _ _ (by kernel_rfl) (by kernel_rfl))) (S.seq (S.assign (d2 _ _ (by kernel_rfl) (by kernel_rfl))) ?_))
  refine S.seq (S.assign (v:=vi (min one two)) ((by kernel_rfl:_=R.ok (.int (if (two:Int)<(one:Int) then (two:Int) else (one:Int)))).trans (qJ (Oc one two)))) ?_
  refine S.seq (S.assign (v:=vi (max one two)) ((by kernel_rfl:_=R.ok (.int (if (one:Int)<(two:Int) then (two:Int) else (one:Int)))).trans (qJ (Od one two)))) ?_
  exact S.seq (S.assign (d3 _ _ (by kernel_rfl) (by kernel_rfl))) (S.seq (S.assign (d4 _ _ (by kernel_rfl) (by kernel_rfl))) (S.seq (S.assign (d5 _ _ (by kernel_rfl) (by kernel_rfl))) (S.seq (S.assign (d6 _ _ (by kernel_rfl) (by kernel_rfl))) (S.seq (S.assign (d7 _ _ (by kernel_rfl) (by kernel_rfl))) (by kernel_rfl)))))
 refine⟨v,S.val (p:=kR) (SX.trans (S.seq (S.for (xs:=vl g) (f7 (E.loc x2) rfl) (by rw[List.length_map,G.len];decide) Wy) (S.seq VR (S.seq Ze (S.seq Zg (S.seq Zh (S.seq Zi (S.end (S.ret (by kernel_rfl)))))))))),hv⟩
def Rp (J:Ρ) (acc:List Nat) (z:SR):Prop:=∃ v,v<65536/\z=.next (J.set 1 (some (.list (vl (acc++[v])))))
theorem Rp.of {D:Fn->List V->R V}{J:Ρ}{acc:List Nat}{e:PE}{v:Nat} (h1:J[1]?=some (some (.list (vl acc)))) (hl:acc.length<1000) (h:ak D e J=.ok (vi v)) (hv:v<65536):Rp J acc (aj D (.cons (.append 1 e) .nil) J):=
 ⟨v,hv,by rw[S.last,S.append h1 h (by rw[List.length_map];exact Nat.lt_trans hl (by decide)) rfl,<- List.map_singleton (f:=vi),<- List.map_append]⟩
theorem Bg {n:Nat} (xs:List Int) {s:Nat} (hs:s<33) {acc:List Nat} (hl:acc.length<1000) {x3 x4 x5:Option V} :
  ∃ k m,Rp [some (.list (xs.map V.int)),some (.list (vl acc)),some (vi s),some (vi k),some (vi m),x5] acc (aj (ae defs (n+1)) i7 [some (.list (xs.map V.int)),some (.list (vl acc)),some (vi s),x3,x4,x5]):=by
 refine Exists.elim (draw (n:=n) xs s hs 524288 (by decide)) fun k zz=>aB zz fun hk d=>?_
 refine⟨k,k % 8,?_⟩
 obtain⟨J,Il⟩:∃ J,J=([some (.list (xs.map V.int)),some (.list (vl acc)),some (vi s),some (vi k),some (vi (k % 8)),x5]:Ρ):=⟨_,rfl⟩
 refine S.tail (ρ':=[some (.list (xs.map V.int)),some (.list (vl acc)),some (vi s),some (vi k),x4,x5]) (S.assign (d _ _ rfl rfl)) (S.tail (ρ':=[some (.list (xs.map V.int)),some (.list (vl acc)),some (vi s),some (vi k),some (vi (k % 8)),x5]) (S.assign (E.sZ 8 (m:=k) rfl)) ?_)
 rw[<- Il]
 have h1:J[1]?=some (some (.list (vl acc))):=by rw[Il];rfl
 have l4:ak (ae defs (n+1)) (.loc 4) J=.ok (vi (k % 8)):=by rw[Il];rfl
 have l3:ak (ae defs (n+1)) (.loc 3) J=.ok (vi k):=by rw[Il];rfl
 exact S.elif (S.qI (p:=((k % 8:Nat):Int)<4) (E.cmp l4 rfl rfl) (fun O=>.of (v:=0) h1 hl rfl (by decide)) fun O=>S.elif (S.bW l4 (.of (v:=1) h1 hl rfl (by decide)) (S.elif (S.bW l4 (.of (v:=65535) h1 hl rfl (by decide)) (S.elif (S.bW l4 (.of (v:=3512) h1 hl rfl (by decide)) (.of h1 hl (E.iN 8 l3) (Nat.div_lt_of_lt_mul hk))))))))
theorem Bh {n:Nat} (xs:List Int):∀ (m s:Nat) (acc:List Nat) (x2 x3 x4 x5:Option V),s+m<=33->acc.length+m<=1000->(∀ x∈acc,x<65536)->
  ∃ W a b c,dg 2 (aj (ae defs (n+1)) i7) ((List.range' s m).map vi) [some (.list (xs.map V.int)),some (.list (vl acc)),x2,x3,x4,x5]=.next [some (.list (xs.map V.int)),some (.list (vl W)),a,b,c,x5]/\W.length=acc.length+m/\∀ x∈W,x<65536:=by
 intro z0
 induction z0 with
 | zero=>
  exact fun s acc x2 x3 x4 x5 O O ha=>⟨acc,x2,x3,x4,rfl,rfl,ha⟩
 | succ m ih=>
  intro s acc x2 x3 x4 x5 hs hl ha
  refine eA (Bg (n:=n) xs (s:=s) (Nat.lt_of_lt_of_le (Nat.lt_add_of_pos_right (Nat.succ_pos m)) hs) (Nat.lt_of_lt_of_le (Nat.lt_add_of_pos_right (Nat.succ_pos m)) hl) (x3:=x3) (x4:=x4) (x5:=x5)) fun k q v zz=>aB zz fun hv hb=>?_
  have e1:(acc++[v]).length+m=acc.length+(m+1):=by rw[List.length_append,Nat.add_assoc,Nat.add_comm m];rfl
  refine kK (ih (s+1) (acc++[v]) (some (vi s)) (some (vi k)) (some (vi q)) x5 (by rw[Nat.add_right_comm];exact hs) (by rw[e1];exact hl) (fun x hx=>(List.mem_append.mp hx).elim (ha x) fun q=>by rw[List.mem_singleton.mp q];exact hv)) fun W a b c zz=>b5 zz fun e wZ hW=>?_
  exact⟨W,a,b,c,F.cons hb e,by rw[wZ,e1],hW⟩
def WK (L:List Nat->Ρ) (z:SR):Prop:=∃ g,ng g/\z=.next (L g)
theorem Kb {n:Nat} (xs:List Int):∃ g,ng g/\ae defs (n+2) .hM [.list (xs.map V.int)]=.ok (.list (vl g)):=by
 refine kK (Bh (n:=n) xs 8 0 [] none none none none (by decide) (by decide) (fun x hx=>by contradiction)) fun W a b c zz=>b5 zz fun e wZ hW=>?_
 refine Exists.elim (draw (n:=n) xs 8 (by decide) 8 (by decide)) fun k zz=>aB zz fun O d=>?_
 rw[List.length_nil,Nat.zero_add] at wZ
 suffices h:WK (fun g=>[some (.list (xs.map V.int)),some (.list (vl g)),a,b,c,some (vi k)]) (bQ (ae defs (n+1)) oN [some (.list (xs.map V.int)),some (.list (vl W)),a,b,c,some (vi k)]) by
  refine Exists.elim h fun g zz=>aB zz fun G h=>?_
  exact⟨g,G,S.val (p:=tT) (S.seq (S.own (l:=[]) rfl) (S.seq (S.for (fE (k:=8) rfl (by decide)) (by decide) e) (S.seq (S.assign (d _ _ rfl rfl)) (S.seq h (S.end (S.ret rfl))))))⟩
 refine S.qI (p:=(k:Int)<2) (E.cmp rfl rfl rfl) (fun O=>?_) fun O=>⟨W,⟨wZ,hW⟩,rfl⟩
 have X6:(W.drop 5).length=3:=by rw[List.length_drop,wZ]
 have hd:aO (.list (vl W)) (.int 5) .none=.ok (.list (vl (W.drop 5))):=by
  have:=fG (vl W) 5
  rw[<- List.map_drop] at this
  exact this
 have hD:∀ x∈W.drop 5,x<65536:=fun x hx=>hW x (List.mem_of_mem_drop hx)
 generalize W.drop 5=aaG at X6 hd hD
 obtain⟨p,q,r,rfl⟩:∃ p q r,aaG=[p,q,r]:=by
  match aaG,X6 with
  | [p,q,r],_=>exact⟨p,q,r,rfl⟩
 have grp:∀ v,v<65536->ng [0,0,0,0,0,p,q,r]/\ng [0,0,0,0,0,v,q,r]:=fun v hv=>by
  have h0:(0:Nat)<65536:=by decide
  have all:∀ u,u<65536->∀ x∈[0,0,0,0,0,u,q,r],x<65536:=fun u hu=>by
   simp only[List.forall_mem_cons]
   exact⟨h0,h0,h0,h0,h0,hu,hD q (.tail _ (.head _)),hD r (.tail _ (.tail _ (.head _))),fun x hx=>by contradiction⟩
  exact⟨⟨rfl,all p (hD p (.head _))⟩,⟨rfl,all v hv⟩⟩
 have e1:bQ (ae defs (n+1)) (.own 1 (.bin .add (.list (.cons (.const (.int 0)) (.cons (.const (.int 0)) (.cons (.const (.int 0)) (.cons (.const (.int 0)) (.cons (.const (.int 0)) .nil)))))) (.slice (.loc 1) (.const (.int 5)) (.const .none)))) [some (.list (xs.map V.int)),some (.list (vl W)),a,b,c,some (vi k)]=.next [some (.list (xs.map V.int)),some (.list (vl [0,0,0,0,0,p,q,r])),a,b,c,some (vi k)]:=
  S.own (E.bin (x:=.list (vl [0,0,0,0,0])) (y:=.list (vl [p,q,r])) rfl (E.slice (l:=.int 5) (h:=.none) rfl rfl rfl rfl hd) rfl)
 refine S.tail e1 (S.elif (S.bW (k:=k) rfl ⟨[0,0,0,0,0,65535,q,r],(grp 65535 (by decide)).2,?_⟩ ⟨[0,0,0,0,0,0,q,r],(grp 0 (by decide)).2,?_⟩))
 ·exact S.last.trans (S.setItem (k:=5) (v:=vi 65535) (xs:=vl [0,0,0,0,0,p,q,r]) rfl rfl rfl (by show (5:Nat)<8;decide) rfl)
 ·exact S.last.trans (S.setItem (k:=5) (v:=vi 0) (xs:=vl [0,0,0,0,0,p,q,r]) rfl rfl rfl (by show (5:Nat)<8;decide) rfl)
theorem v7 {t:List Nat}{k:Nat} (h:GW k t) (hk:k<=520):Txt t:=⟨fun c hc=>(h.1 c hc).1,fun q=>(h.1 10 q).2 rfl,Nat.le_trans h.2 hk⟩
theorem Hf {g h:List Nat} (G:ng g) (H:ng h):decide (cQ g=cQ h)=decide (g=h):=by
 apply decide_eq_decide.mpr
 constructor
 ·intro e
  have:=iB G
  rw[e,iB H] at this
  exact (Option.some.inj this).symm
 ·intro e;rw[e]
theorem mw {n:Nat}{f:Int}{t:List Nat} (T:Txt t) {A:List V} (h9:ak (ae defs (n+6)) (.loc 9) (sq 13 A)=.ok (.str t)) (h2:ak (ae defs (n+6)) (.loc 2) (sq 13 A)=.ok (.int f)):aj (ae defs (n+6)) CY (sq 13 A)=.next (sq 13 A):=
 S.one (S.skip (E.not (E.call (E.two h9 h2) (Rl (n:=n) T)) rfl))
theorem Rq {n:Nat}{one two:List Nat} (T1:Txt one) (T2:Txt two) {A:List V} (h4:ak (ae defs (n+6)) (.loc 4) (sq 13 A)=.ok (.str one)) (h5:ak (ae defs (n+6)) (.loc 5) (sq 13 A)=.ok (.str two)) (oV:ak (ae defs (n+6)) (.loc 10) (sq 13 A)=.ok (ov (bA one)))
  (Ue:ak (ae defs (n+6)) (.loc 11) (sq 13 A)=.ok (ov (bA two))):bQ (ae defs (n+6)) xF (sq 13 A)=.next (sq 13 A):=by
 have c1:=mr (n:=n+2) T1
 have c2:=mr (n:=n+2) T2
 unfold dp at c1 c2
 cases q1:bA one with
 | none=>
  rw[q1] at oV
  exact S.skip (E.Jd (E.cmp oV rfl rfl) rfl)
 | some a=>
  cases q2:bA two with
  | none=>
   rw[q1] at oV
   rw[q2] at Ue
   exact S.skip (E.Jc (E.cmp oV rfl rfl) rfl (E.cmp Ue rfl rfl))
  | some b=>
   rw[q1] at oV c1
   rw[q2] at Ue c2
   have e1:ak (ae defs (n+6)) (.cmp .eq (.call .eY (.cons (.loc 4) .nil)) (.call .eY (.cons (.loc 5) .nil))) (sq 13 A)=.ok (.bool (decide (a=b))):=E.cmp (E.call (E.one h4) c1) (E.call (E.one h5) c2) (bZ (Hf (rF (iA q1)) (rF (iA q2))))
   have e2:ak (ae defs (n+6)) (.cmp .eq (.loc 10) (.loc 11)) (sq 13 A)=.ok (.bool (decide (a=b))):=E.cmp oV Ue (by rw[vG];unfold ov;rw[JM];rfl)
   exact (S.aE (C.and (E.cmp oV rfl rfl) (E.cmp Ue rfl rfl)) rfl).trans (S.one (S.skip (E.cmp e1 e2 (bZ (by cases decide (a=b)<;>rfl)))))
theorem Kc (n:Nat) (xs:List Int):ae defs (n+7) .law [.list (xs.map V.int)]=.ok (.bool true):=by
 refine Exists.elim (Kb (n:=n+4) xs) fun g zz=>aB zz fun G hg=>?_
 refine Exists.elim (draw (n:=n+5) xs 31 (by decide) 16 (by decide)) fun Zj zz=>aB zz fun Zk df=>?_
 obtain⟨f,WL⟩:∃ f,f=(Zj:Int) - 2:=⟨_,rfl⟩
 have Zm:f.natAbs<1000:=by omega
 refine Exists.elim (draw (n:=n+5) xs 32 (by decide) 24 (by decide)) fun Rr zz=>aB zz fun Zn ds=>?_
 obtain⟨size,j4,h3⟩:∃ size:Nat,size<=20/\bQ (ae defs (n+6)) CZ (sq 13 [.list (xs.map V.int),.list (vl g),.int f,vi Rr])=.next (sq 13 [.list (xs.map V.int),.list (vl g),.int f,vi size]):=by
  by_cases h:20<Rr
  ·exact⟨4,by decide,(S.aE (E.cmp (op:=.gt) (x:=vi Rr) (y:=vi 20) rfl rfl (bZ (fP 20 Rr))) (decide_eq_true h)).trans (S.one (S.assign rfl))⟩
  ·exact⟨Rr,Nat.le_of_not_lt h,S.skip (E.cmp (op:=.gt) (x:=vi Rr) (y:=vi 20) rfl rfl (bZ ((fP 20 Rr).trans (decide_eq_false h))))⟩
 refine Exists.elim (uA (n:=n+4) xs 9 (by decide) G) fun one zz=>aB zz fun h1 g1=>?_
 refine Exists.elim (uA (n:=n+4) xs 17 (by decide) G) fun two zz=>aB zz fun h2 g2=>?_
 refine Exists.elim (PR (n:=n+5) xs 25 (by decide)) fun zq Zo=>?_
 refine Exists.elim (Rn (n:=n+5) zq) fun free zz=>aB zz fun h6 g6=>?_
 refine Exists.elim (draw (n:=n+5) xs 26 (by decide) 256 (by decide)) fun a zz=>aB zz fun la da=>?_
 refine Exists.elim (draw (n:=n+5) xs 27 (by decide) 256 (by decide)) fun b zz=>aB zz fun lb db=>?_
 refine Exists.elim (draw (n:=n+5) xs 28 (by decide) 256 (by decide)) fun c zz=>aB zz fun lc dc=>?_
 refine Exists.elim (draw (n:=n+5) xs 29 (by decide) 256 (by decide)) fun d zz=>aB zz fun ld dd=>?_
 have h4:∀ x∈[a,b,c,d],x<256:=by
  simp only[List.forall_mem_cons]
  exact⟨la,lb,lc,ld,fun x hx=>by contradiction⟩
 refine Exists.elim (draw (n:=n+5) xs 30 (by decide) 48 (by decide)) fun Zq zz=>aB zz fun O dm=>?_
 refine Exists.elim (yo (n:=n+5) (four:=[a,b,c,d]) rfl h4 Zq) fun dot zz=>aB zz fun oV Zr=>?_
 have T1:=v7 g1 (by decide)
 have T2:=v7 g2 (by decide)
 have T6:=v7 g6 (by decide)
 have Zt:=v7 Zr (by decide)
 have h9:ak (ae defs (n+6)) (.comp (.bin .mod (.call .qf (.cons (.loc 0) (.cons (.loc 12) .nil))) (.const (.int 256))) 12 (.sM (.const (.int 26)) (.const (.int 30)) 1) (.const (.bool true))) (sq 13 [.list (xs.map V.int),.list (vl g),.int f,vi size,.str one,.str two,.str free])=.ok (.list (vl [a,b,c,d])):=by
  refine (E.map (f:=fun x=>V.casesOn x (vi d) (fun O=>vi d) (fun i=>if i=26 then vi a else if i=27 then vi b else if i=28 then vi c else vi d) (fun O=>vi d) (fun O=>vi d) (fun O=>vi d) (fun O=>vi d) fun O=>vi d) (xs:=[.int 26,.int 27,.int 28,.int 29]) (by kernel_rfl) (by decide) ?_).trans rfl
  simp only[List.forall_mem_cons]
  exact⟨da _ _ rfl rfl,db _ _ rfl rfl,dc _ _ rfl rfl,dd _ _ rfl rfl,fun x hx=>by contradiction⟩
 refine S.val (p:=PK) ?_
 refine S.seq (S.push (N:=13) (A:=[.list (xs.map V.int)]) (E.call (E.one rfl) hg)) (S.seq (S.push (v:=.int f) (E.bin (df _ _ rfl rfl) rfl (qJ WL.symm))) (S.seq (S.push (ds _ _ rfl rfl)) (S.seq h3 ?_)))
 refine S.seq (S.skip (E.not (E.call (E.one rfl) (Rm (n:=n) G)) rfl)) (S.seq (S.skip (C.or (E.not (E.call (vs:=[.list (vl g),vi size,.int f]) rfl (Ha (n:=n) G j4 f)) rfl) (E.not (E.call (E.one rfl) (Ua (n:=n) Zm)) rfl))) ?_)
 refine S.seq (S.push (E.call (vs:=[.list (xs.map V.int),vi 9,.list (vl g)]) rfl h1)) (S.seq (S.push (E.call (vs:=[.list (xs.map V.int),vi 17,.list (vl g)]) rfl h2)) (S.seq (S.push (E.call (E.one (E.call (E.two rfl rfl) Zo)) h6)) (S.seq (S.push h9) (S.seq (S.push (E.call (E.two (dm _ _ rfl rfl) rfl) oV)) ?_))))
 refine S.seq (ρ':=sq 13 [.list (xs.map V.int),.list (vl g),.int f,vi size,.str one,.str two,.str free,.list (vl [a,b,c,d]),.str dot,.str dot]) (S.for (xs:=[.str one,.str two,.str free,.str dot]) (by kernel_rfl) (by show (4:Nat)<=1000000;decide) ?_) ?_
 ·exact F.cons (mw (A:=[.list (xs.map V.int),.list (vl g),.int f,vi size,.str one,.str two,.str free,.list (vl [a,b,c,d]),.str dot,.str one]) T1 rfl rfl) (F.cons (mw (A:=[.list (xs.map V.int),.list (vl g),.int f,vi size,.str one,.str two,.str free,.list (vl [a,b,c,d]),.str dot,.str two]) T2 rfl rfl) (F.cons (mw (A:=[.list (xs.map V.int),.list (vl g),.int f,vi size,.str one,.str two,.str free,.list (vl [a,b,c,d]),.str dot,.str free]) T6 rfl rfl) (F.cons (mw (A:=[.list (xs.map V.int),.list (vl g),.int f,vi size,.str one,.str two,.str free,.list (vl [a,b,c,d]),.str dot,.str dot]) Zt rfl rfl) rfl)))
 refine S.seq (S.push (E.call (E.one rfl) (vO (n:=n+3) one T1.asc T1.len))) (S.seq (S.push (E.call (E.one rfl) (vO (n:=n+3) two T2.asc T2.len))) (S.seq (Rq T1 T2 rfl rfl rfl rfl) (S.end (S.ret rfl))))
end Mine.Internal.P
end
section
open PySem PySem.Calls PyProof.Rows PySem.W
namespace Mine.Internal
mutual
noncomputable def Rep (g:Addr->Obj->Prop):V->Value->Prop
 | .none,v=>v=.none
 | .bool b,v=>v=.bool b
 | .int i,v=>∃ t,v=.int i t
 | .str x,v=>∃ y t,v=.str y t/\y.cps.toList=x/\x.length<=16777216
 | .bytes x,v=>∃ y t,v=.bytes y t/\y.toList.map UInt8.toNat=x/\x.length<=16777216
 | .b9 x,v=>∃ a o y n,v=.ref a/\g a o/\o.cls=.type "bytearray"/\o.data=.bytearray y n/\n=0/\y.toList.map UInt8.toNat=x/\x.length<=16777216
 | .list ds,v=>∃ a o vs n,v=.ref a/\g a o/\o.cls=.type "list"/\o.data=.seq vs n/\ds.length<=16777216/\ay g ds vs.toList
 | .tuple ds,v=>∃ a o vs n,v=.ref a/\g a o/\o.cls=.type "tuple"/\o.data=.seq vs n/\ds.length<=16777216/\ay g ds vs.toList
noncomputable def ay (g:Addr->Obj->Prop):List V->List Value->Prop
 | [],vs=>vs=[]
 | d::ds,vs=>∃ v r,vs=v::r/\Rep g d v/\ay g ds r
end
theorem Kd {g:Addr->Obj->Prop}:Rep g .none v=(v=.none):=rfl
theorem Ke {g:Addr->Obj->Prop}:Rep g (.bool b) v=(v=.bool b):=rfl
theorem Kf {g:Addr->Obj->Prop}:Rep g (.int i) v=(∃ t,v=.int i t):=rfl
theorem Rt {g:Addr->Obj->Prop}:Rep g (.str x) v=(∃ y t,v=.str y t/\y.cps.toList=x/\x.length<=16777216):=rfl
theorem Ru {g:Addr->Obj->Prop}:Rep g (.bytes x) v=(∃ y t,v=.bytes y t/\y.toList.map UInt8.toNat=x/\x.length<=16777216):=rfl
theorem Rv {g:Addr->Obj->Prop}:Rep g (.b9 x) v=(∃ a o y n,v=.ref a/\g a o/\o.cls=.type "bytearray"/\o.data=.bytearray y n/\n=0/\y.toList.map UInt8.toNat=x/\x.length<=16777216):=rfl
theorem Bi {g:Addr->Obj->Prop}:Rep g (.list ds) v=(∃ a o vs n,v=.ref a/\g a o/\o.cls=.type "list"/\o.data=.seq vs n/\ds.length<=16777216/\ay g ds vs.toList):=rfl
theorem Rw {g:Addr->Obj->Prop}:Rep g (.tuple ds) v=(∃ a o vs n,v=.ref a/\g a o/\o.cls=.type "tuple"/\o.data=.seq vs n/\ds.length<=16777216/\ay g ds vs.toList):=rfl
theorem dr {g:Addr->Obj->Prop}:ay g [] vs=(vs=[]):=rfl
theorem cZ {g:Addr->Obj->Prop}:ay g (d::ds) vs=(∃ v r,vs=v::r/\Rep g d v/\ay g ds r):=rfl
theorem ay.length {g:Addr->Obj->Prop}:∀ {ds:List V}{vs:List Value},ay g ds vs->vs.length=ds.length:=by
 intro z0
 induction z0 with
 | nil=>
  intro _ h
  rw[dr] at h;subst h;rfl
 | cons d ds ih=>
  intro _ h
  rw[cZ] at h
  refine bT h fun v r zz=>b5 zz fun av O h2=>?_;clear zz;try clear h;subst av
  simp[ih h2]
theorem ay.cons {g:Addr->Obj->Prop}{d:V}{ds:List V}{v:Value}{vs:List Value} (h:Rep g d v) (r:ay g ds vs):ay g (d::ds) (v::vs):=by
 rw[cZ];exact⟨v,vs,rfl,h,r⟩
@[elab_as_elim] theorem ay.cB {g:Addr->Obj->Prop}{d:V}{ds:List V}{M:List Value->Prop}{vs:List Value} (h:ay g (d::ds) vs) (f:∀ v r,Rep g d v->ay g ds r->M (v::r)):M vs:=bT h fun v r z=>b5 z fun q a b=>q ▸ f v r a b
@[elab_as_elim] theorem ay.Bj {g:Addr->Obj->Prop}{M:List Value->Prop}{vs:List Value} (h:ay g [] vs) (f:M []):M vs:=(show vs=[] from h) ▸ f
theorem ay.nil {g:Addr->Obj->Prop}:ay g [] []:=by rw[dr]
theorem ay.get {g:Addr->Obj->Prop}:∀ {ds:List V}{vs:List Value}{i:Nat}{d:V},ay g ds vs->ds[i]?=some d->∃ v,vs[i]?=some v/\Rep g d v:=by
 intro z0
 induction z0 with
 | nil=>
  intro _ _ _ _ e
  simp at e
 | cons d ds ih=>
  intro _ i _ h e
  rw[cZ] at h
  refine bT h fun v r zz=>b5 zz fun av h1 h2=>?_;clear zz;try clear h;subst av
  cases i with
  | zero=>simp at e;subst e;exact⟨v,rfl,h1⟩
  | succ i=>simp at e ⊢;exact ih h2 e
theorem ay.append {g:Addr->Obj->Prop}:∀ {ds es:List V}{vs ws:List Value},ay g ds vs->ay g es ws->ay g (ds++es) (vs++ws):=by
 intro z0
 induction z0 with
 | nil=>
  intro _ _ _ h h'
  rw[dr] at h;subst h;exact h'
 | cons d ds ih=>
  intro _ _ _ h h'
  rw[cZ] at h
  refine bT h fun v r zz=>b5 zz fun av h1 h2=>?_;clear zz;try clear h;subst av
  exact ay.cons h1 (ih h2 h')
theorem ay.drop {g:Addr->Obj->Prop}:∀ {ds:List V}{vs:List Value} (n:Nat),ay g ds vs->ay g (ds.drop n) (vs.drop n)
 | _,_,0,h=>h
 | [],_,_+1,h=>by rw[dr] at h;subst h;exact ay.nil
 | d::ds,_,n+1,h=>by
  rw[cZ] at h
  refine bT h fun v r zz=>b5 zz fun av h1 h2=>?_;clear zz;try clear h;subst av
  exact ay.drop n h2
theorem ay.take {g:Addr->Obj->Prop}:∀ {ds:List V}{vs:List Value} (n:Nat),ay g ds vs->ay g (ds.take n) (vs.take n)
 | _,_,0,h=>by simp[dr,cZ]
 | [],_,_+1,h=>by rw[dr] at h;subst h;exact ay.nil
 | d::ds,_,n+1,h=>by
  rw[cZ] at h
  refine bT h fun v r zz=>b5 zz fun av h1 h2=>?_;clear zz;try clear h;subst av
  exact ay.cons h1 (ay.take n h2)
theorem ay.set {g:Addr->Obj->Prop}:∀ {ds:List V}{vs:List Value} (n:Nat) {d:V}{v:Value},ay g ds vs->Rep g d v->ay g (ds.set n d) (vs.set n v):=by
 intro z0
 induction z0 with
 | nil=>
  intro _ _ _ _ h _
  rw[dr] at h;subst h;exact ay.nil
 | cons d ds ih=>
  intro _ n _ _ h hd
  rw[cZ] at h
  refine bT h fun v r zz=>b5 zz fun av h1 h2=>?_;clear zz;try clear h;subst av
  cases n with
  | zero=>exact ay.cons hd h2
  | succ n=>exact ay.cons h1 (ih n h2 hd)
def uB (o:Obj):Prop:=(∃ vs n,o.data=.seq vs n)∨∃ y n,o.data=.bytearray y n
def book (o:Obj):Prop:=∃ es n,o.data=.dict es n
theorem gS {o:Obj}{vs:Array Value} (h:o.data=.fields vs):¬ book o:=fun ⟨_,_,e⟩=>by rw[h] at e;contradiction
theorem cC {o:Obj}{vs:Array Value}{n:Nat} (h:o.data=.seq vs n):¬ book o:=fun ⟨_,_,e⟩=>by rw[h] at e;contradiction
theorem dM {o:Obj}{y:Array UInt8}{n:Nat} (h:o.data=.bytearray y n):¬ book o:=fun ⟨_,_,e⟩=>by rw[h] at e;contradiction
theorem book.eK {o:Obj} (h:book o):∀ vs,o.data≠.fields vs:=fun vs q=>gS q h
mutual
theorem Rep.mono {g g':Addr->Obj->Prop} (k:∀ a o,g a o->uB o->g' a o):∀ {d:V}{v:Value},Rep g d v->Rep g' d v
 | .none,_,h=>by rw[Kd] at h ⊢;exact h
 | .bool _,_,h=>by rw[Ke] at h ⊢;exact h
 | .int _,_,h=>by rw[Kf] at h ⊢;exact h
 | .str _,_,h=>by rw[Rt] at h ⊢;exact h
 | .bytes _,_,h=>by rw[Ru] at h ⊢;exact h
 | .b9 _,_,h=>by
  rw[Rv] at h ⊢
  refine kK h fun a o y n zz=>iV zz fun e ho hc r=>?_
  exact⟨a,o,y,n,e,k _ _ ho (.inr ⟨_,_,r.1⟩),hc,r⟩
 | .list ds,_,h=>by
  rw[Bi] at h ⊢
  refine kK h fun a o vs n zz=>zl zz fun e ho hc hd hl r=>?_
  exact⟨a,o,vs,n,e,k _ _ ho (.inl ⟨_,_,hd⟩),hc,hd,hl,ay.mono k r⟩
 | .tuple ds,_,h=>by
  rw[Rw] at h ⊢
  refine kK h fun a o vs n zz=>zl zz fun e ho hc hd hl r=>?_
  exact⟨a,o,vs,n,e,k _ _ ho (.inl ⟨_,_,hd⟩),hc,hd,hl,ay.mono k r⟩
theorem ay.mono {g g':Addr->Obj->Prop} (k:∀ a o,g a o->uB o->g' a o):∀ {ds:List V}{vs:List Value},ay g ds vs->ay g' ds vs
 | [],_,h=>by rw[dr] at h ⊢;exact h
 | d::ds,_,h=>by
  rw[cZ] at h ⊢
  refine bT h fun v r zz=>b5 zz fun e h1 h2=>?_
  exact⟨v,r,e,Rep.mono k h1,ay.mono k h2⟩
end
noncomputable def seen (X:Addr->Prop) (h:Heap):Addr->Obj->Prop:=fun a o=>h.get? a=some o/\¬ X a
noncomputable def plus (X:Addr->Prop) (a:Addr):Addr->Prop:=fun b=>X b∨b=a
theorem Rep.less {X Y:Addr->Prop}{h:Heap}{d:V}{v:Value} (r:Rep (seen X h) d v) (k:∀ a,Y a->X a):Rep (seen Y h) d v:=r.mono fun a o e O=>⟨e.1,fun y=>e.2 (k a y)⟩
theorem ay.less {X Y:Addr->Prop}{h:Heap}{d:List V}{v:List Value} (r:ay (seen X h) d v) (k:∀ a,Y a->X a):ay (seen Y h) d v:=r.mono fun a o e O=>⟨e.1,fun y=>e.2 (k a y)⟩
theorem Rep.drop {X:Addr->Prop}{h:Heap}{a:Addr}{d:V}{v:Value} (r:Rep (seen (plus X a) h) d v):Rep (seen X h) d v:=r.less fun O x=>.inl x
theorem ay.drop' {X:Addr->Prop}{h:Heap}{a:Addr}{d:List V}{v:List Value} (r:ay (seen (plus X a) h) d v):ay (seen X h) d v:=r.less fun O x=>.inl x
theorem Rep.fresh {X:Addr->Prop}{h:Heap}{a:Addr}{d:V}{v:Value} (r:Rep (seen X h) d v) (n:h.get? a=none):Rep (seen (plus X a) h) d v:=
 r.mono fun b o e O=>⟨e.1,fun q=>q.elim e.2 fun q=>by have e1:=e.1;rw[q,n] at e1;contradiction⟩
theorem ay.fresh {X:Addr->Prop}{h:Heap}{a:Addr}{d:List V}{v:List Value} (r:ay (seen X h) d v) (n:h.get? a=none):ay (seen (plus X a) h) d v:=
 r.mono fun b o e O=>⟨e.1,fun q=>q.elim e.2 fun q=>by have e1:=e.1;rw[q,n] at e1;contradiction⟩
def Kept (base h h':Heap):Prop:=
 ∀ b o,h.get? b=some o->h'.get? b=some o∨(base.get? b=none/\book o/\(∀ vs,o.data≠.fields vs)/\∃ sl,h'.get? b=some { o with slots:=sl })
theorem Kept.refl (base h:Heap):Kept base h h:=fun O O e=>.inl e
theorem Kept.trans {base ai aD bE:Heap} (x:Kept base ai aD) (y:Kept base aD bE):Kept base ai bE:=fun b o e=>by
 rcases x b o e with e₁ | ⟨n,c,f,sl,e₁⟩
 ·exact y b o e₁
 ·rcases y b _ e₁ with bK | ⟨_,_,_,Io,bK⟩
  ·exact .inr ⟨n,c,f,sl,bK⟩
  ·exact .inr ⟨n,c,f,Io,bK⟩
theorem Kept.of_keeps {base h h':Heap} (k:∀ b o,h.get? b=some o->h'.get? b=some o):Kept base h h':=fun b o e=>.inl (k b o e)
theorem Kept.push (base h:Heap) (o:Obj):Kept base h (h.push o):=.of_keeps fun O O e=>Heap.get?_push_of_some o e
theorem Kept.get {base h h':Heap} (k:Kept base h h') {b:Addr}{o:Obj} (e:h.get? b=some o) (hc:¬ book o):h'.get? b=some o:=by
 rcases k b o e with e | ⟨_,c,_⟩
 ·exact e
 ·exact absurd c hc
theorem Kept.same {base h h':Heap} (k:Kept base h h') {b:Addr}{o:Obj} (e:h.get? b=some o):∃ o',h'.get? b=some o'/\o'.data=o.data/\o'.cls=o.cls:=by
 rcases k b o e with e | ⟨_,_,_,sl,e⟩
 ·exact⟨_,e,rfl,rfl⟩
 ·exact⟨_,e,rfl,rfl⟩
theorem Kept.ns {base h h':Heap} (k:Kept base h h') {a:Addr}{m:Str->Option Value} (n:h.Ns a m):h'.Ns a m:=by
 refine eA n fun o es ep zz=>b5 zz fun ho hd r=>?_
 refine Exists.elim (k.same ho) fun o' zz=>b5 zz fun ll kx O=>?_
 exact⟨o',es,ep,ll,kx.trans hd,r⟩
theorem Kept.cell {base h h':Heap} (k:Kept base h h') {a:Addr}{v:Option Value} (n:h.IsCell a v):h'.IsCell a v:=by
 refine Exists.elim n fun o zz=>aB zz fun ho hd=>?_
 refine Exists.elim (k.same ho) fun o' zz=>b5 zz fun ll kx O=>?_
 exact⟨o',ll,kx.trans hd⟩
theorem Kept.stays {base h h':Heap} (k:Kept base h h') (s:base.StaysIn h):base.StaysIn h':=fun b o e=>by
 rcases k b o (s b o e) with e' | ⟨n,_⟩
 ·exact e'
 ·rw[e] at n;contradiction
theorem b7 {o:Obj} (s:uB o):¬ book o:=by
 rcases s with ⟨_,_,c⟩ | ⟨_,_,c⟩
 ·exact cC c
 ·exact dM c
theorem Kept.seen {base h h':Heap} (k:Kept base h h') {X:Addr->Prop}:∀ a o,seen X h a o->uB o->Mine.Internal.seen X h' a o:=fun a o e s=>⟨k.get e.1 (b7 s),e.2⟩
theorem Kept.rep {base h h':Heap} (k:Kept base h h') {X:Addr->Prop}{d:V}{v:Value} (r:Rep (Mine.Internal.seen X h) d v):Rep (Mine.Internal.seen X h') d v:=r.mono k.seen
theorem Kept.j5 {base h h':Heap} (k:Kept base h h') {X:Addr->Prop}{d:List V}{v:List Value} (r:ay (Mine.Internal.seen X h) d v):ay (Mine.Internal.seen X h') d v:=r.mono k.seen
inductive Chain (h:Heap):Nat->Addr->Prop
 | last {a:Addr}{o:Obj}{vs:Array Value}:h.get? a=some o->¬ book o->o.cls≠.type "traceback"->o.data=.fields vs->vs[2]?=some .none->Chain h 0 a
 | more {n:Nat}{a b:Addr}{o:Obj}{vs:Array Value}:h.get? a=some o->¬ book o->o.cls≠.type "traceback"->o.data=.fields vs->vs[2]?=some (.ref b)->Chain h n b->Chain h (n+1) a
theorem Chain.keeps {h h':Heap}{n:Nat}{a:Addr} (c:Chain h n a) (k:∀ m b o,m<=n->Chain h m b->h.get? b=some o->¬ book o->o.cls≠.type "traceback"->h'.get? b=some o):Chain h' n a:=by
 induction c with
 | last e hf ht hd h2=>exact .last (k _ _ _ (Nat.le_refl _) (.last e hf ht hd h2) e hf ht) hf ht hd h2
 | more e hf ht hd h2 c ih=>exact .more (k _ _ _ (Nat.le_refl _) (.more e hf ht hd h2 c) e hf ht) hf ht hd h2 (ih fun m b o hb=>k m b o (Nat.le_succ_of_le hb))
theorem Chain.kept {base h h':Heap}{n:Nat}{a:Addr} (c:Chain h n a) (k:Kept base h h'):Chain h' n a:=c.keeps fun O O O O O e n O=>k.get e n
theorem Chain.uniq {h:Heap}{n:Nat}{a:Addr} (c:Chain h n a):∀ {m:Nat},Chain h m a->n=m:=by
 induction c with
 | last e hf ht hd h2=>
  intro m c'
  cases c' with
  | last=>rfl
  | more e' _ _ kx pF _=>
   rw[e] at e';obtain rfl:=Option.some.inj e'
   rw[hd] at kx;obtain rfl:=Data.fields.inj kx
   rw[h2] at pF;cases pF
 | more e hf ht hd h2 c ih=>
  intro m c'
  cases c' with
  | last e' _ _ kx pF=>
   rw[e] at e';obtain rfl:=Option.some.inj e'
   rw[hd] at kx;obtain rfl:=Data.fields.inj kx
   rw[h2] at pF;cases pF
  | more e' _ _ kx pF c'=>
   rw[e] at e';obtain rfl:=Option.some.inj e'
   rw[hd] at kx;obtain rfl:=Data.fields.inj kx
   rw[h2] at pF;obtain rfl:=Value.ref.inj (Option.some.inj pF)
   rw[ih c']
theorem Chain.get {h:Heap}{n:Nat}{a:Addr} (c:Chain h n a):∃ o vs v,h.get? a=some o/\¬ book o/\o.cls≠.type "traceback"/\o.data=.fields vs/\vs[2]?=some v/\
  ((v=.none/\n=0)∨∃ b m,v=.ref b/\n=m+1/\Chain h m b):=by
 cases c with
 | last e hf ht hd h2=>exact⟨_,_,_,e,hf,ht,hd,h2,.inl ⟨rfl,rfl⟩⟩
 | more e hf ht hd h2 c=>exact⟨_,_,_,e,hf,ht,hd,h2,.inr ⟨_,_,rfl,rfl,c⟩⟩
def ExcAt (tr:Bool) (h₀:Heap) (c:Value) (e:Addr) (h:Heap):Prop:=
 h₀.get? e=none/\(∃ n,Chain h n e)/\∃ oe vs,h.get? e=some oe/\oe.cls=c/\oe.data=.fields vs/\
  ((tr=false/\vs[1]?=some .none)∨∃ T oT ts f,vs[1]?=some (.ref T)/\h₀.get? T=none/\h.get? T=some oT/\oT.cls=.type "traceback"/\oT.data=.fields ts/\ts[3]?=some f)
theorem ExcAt.weak {tr:Bool}{h₀ h:Heap}{c:Value}{e:Addr} (x:ExcAt tr h₀ c e h):ExcAt false h₀ c e h:=by
 obtain⟨a,b,oe,vs,h1,h2,h3,h4⟩:=x
 refine⟨a,b,oe,vs,h1,h2,h3,?_⟩
 rcases h4 with ⟨_,e⟩ | r
 ·exact .inl ⟨rfl,e⟩
 ·exact .inr r
theorem Kept.missing {base h h':Heap} (k:Kept base h h') {b:Addr} (e:h'.get? b=none):h.get? b=none:=by
 cases q:h.get? b with
 | none=>rfl
 | some o=>
  refine Exists.elim (k.same q) fun o' zz=>aB zz fun e' O=>?_
  rw[e] at e';contradiction
theorem ExcAt.elder {tr:Bool}{base h₀ ai h:Heap}{c:Value}{e:Addr} (x:ExcAt tr ai c e h) (k:Kept base h₀ ai):ExcAt tr h₀ c e h:=by
 obtain⟨a,b,oe,vs,h1,h2,h3,h4⟩:=x
 refine⟨k.missing a,b,oe,vs,h1,h2,h3,?_⟩
 rcases h4 with r | ⟨T,oT,ts,f,q1,q2,q3⟩
 ·exact .inl r
 ·exact .inr ⟨T,oT,ts,f,q1,k.missing q2,q3⟩
noncomputable def Frames (base h:Heap):List Env->Prop
 | []=>True
 | env::r=>env.scope.kind≠.module/\(∃ L o,env.frame=some L/\base.get? L=none/\h.get? L=some o/\book o/\∀ vs,o.data≠.fields vs)/\Frames base h r
theorem Frames.fun {base h:Heap}:∀ {l:List Env},Frames base h l->h.FunFrames base l:=by
 intro z0
 induction z0 with
 | nil=>
  exact fun O=>trivial
 | cons _ _ ih=>
  exact fun ⟨hk,⟨L,o,hf,hn,ho,_,hd⟩,hr⟩=>⟨hk,⟨L,o,hf,hn,ho,hd⟩,(ih hr)⟩
theorem Frames.kept {base h h':Heap} (k:Kept base h h'):∀ {l:List Env},Frames base h l->Frames base h' l:=by
 intro z0
 induction z0 with
 | nil=>
  exact fun O=>trivial
 | cons _ _ ih=>
  exact fun ⟨hk,⟨L,o,hf,hn,ho,hc,hd⟩,hr⟩=>
   let ⟨o',e',kx,Nz⟩:=k.same ho
   ⟨hk,⟨L,o',hf,hn,e',hc.imp fun O=>Exists.imp fun O q=>kx.trans q,fun vs q=>hd vs (kx ▸ q)⟩,(ih hr)⟩
theorem Frames.mem {base h:Heap}:∀ {l:List Env},Frames base h l->∀ {b:Addr},b∈l.filterMap (·.frame)->base.get? b=none/\∃ o,h.get? b=some o/\book o/\∀ vs,o.data≠.fields vs
 | env::r,⟨_,⟨L,o,hf,hn,ho,hc,hd⟩,hr⟩,b,hb=>by
  rw[List.filterMap_cons,hf] at hb
  rcases List.mem_cons.mp hb with e | hb
  ·subst e;exact⟨hn,o,ho,hc,hd⟩
  ·exact Frames.mem hr hb
theorem Frames.slots {base h h':Heap}{l:List Env} (f:Frames base h l) (x:Heap.SlotsOnly (l.filterMap (·.frame)) h h'):Kept base h h':=fun b o e=>by
 by_cases hb:b∈l.filterMap (·.frame)
 ·obtain⟨hn,o',ho,hc,hd⟩:=f.mem hb
  rw[e] at ho
  obtain rfl:=Option.some.inj ho
  obtain⟨sl,hs⟩:=x.2.2 b o e
  exact .inr ⟨hn,hc,hd,sl,hs⟩
 ·exact .inl ((x.2.1 b hb).trans e)
def cV (base h₀ h h':Heap):Prop:=
 ∀ b o,h.get? b=some o->((∀ vs,o.data≠.fields vs)∨h₀.get? b≠none)->h'.get? b=some o∨(base.get? b=none/\book o/\(∀ vs,o.data≠.fields vs)/\∃ sl,h'.get? b=some { o with slots:=sl })
theorem Kept.n {base h₀ h h':Heap} (k:Kept base h h'):cV base h₀ h h':=fun b o e O=>k b o e
theorem cV.trans {base h₀ ai aD bE:Heap} (x:cV base h₀ ai aD) (y:cV base h₀ aD bE):cV base h₀ ai bE:=fun b o e q=>by
 rcases x b o e q with e₁ | ⟨n,c,f,sl,e₁⟩
 ·exact y b o e₁ q
 ·rcases y b _ e₁ q with bK | ⟨_,_,_,Io,bK⟩
  ·exact .inr ⟨n,c,f,sl,bK⟩
  ·exact .inr ⟨n,c,f,Io,bK⟩
theorem Kept.after {base h₀ h h':Heap} (k:Kept base h₀ h) (n:cV base h₀ h h'):Kept base h₀ h':=fun b o e=>by
 have hn:h₀.get? b≠none:=by rw[e];intro q;contradiction
 rcases k b o e with e₁ | ⟨n₁,c,f,sl,e₁⟩
 ·exact n b o e₁ (.inr hn)
 ·rcases n b _ e₁ (.inr hn) with bK | ⟨_,_,_,Io,bK⟩
  ·exact .inr ⟨n₁,c,f,sl,bK⟩
  ·exact .inr ⟨n₁,c,f,Io,bK⟩
theorem cV.get {base h₀ h h':Heap} (k:cV base h₀ h h') {b:Addr}{o:Obj} (e:h.get? b=some o) (hc:¬ book o) (hd:∀ vs,o.data≠.fields vs):h'.get? b=some o:=by
 rcases k b o e (.inl hd) with e | ⟨_,c,_⟩
 ·exact e
 ·exact absurd c hc
theorem cV.same {base h₀ h h':Heap} (k:cV base h₀ h h') {b:Addr}{o:Obj} (e:h.get? b=some o) (hd:∀ vs,o.data≠.fields vs):∃ o',h'.get? b=some o'/\o'.data=o.data/\o'.cls=o.cls:=by
 rcases k b o e (.inl hd) with e | ⟨_,_,_,sl,e⟩
 ·exact⟨_,e,rfl,rfl⟩
 ·exact⟨_,e,rfl,rfl⟩
theorem Frames.uC {base h₀ h h':Heap} (k:cV base h₀ h h'):∀ {l:List Env},Frames base h l->Frames base h' l:=by
 intro z0
 induction z0 with
 | nil=>
  exact fun O=>trivial
 | cons _ _ ih=>
  exact fun ⟨hk,⟨L,o,hf,hn,ho,hc,hd⟩,hr⟩=>
   let ⟨o',e',kx,Nz⟩:=k.same ho hd
   ⟨hk,⟨L,o',hf,hn,e',hc.imp fun O=>Exists.imp fun O q=>kx.trans q,fun vs q=>hd vs (kx ▸ q)⟩,(ih hr)⟩
section
variable {M:Model}{A:Around}{E:Value->Shared->Prop}{s:Shared}{base h₀:Heap}
theorem fx {e:Addr}{c:Value}{fr:Option Addr}{Q:Unit->Shared->Prop}{tr:Bool} (hx:ExcAt tr h₀ c e s.heap)
  (hQ:∀ h',cV base h₀ s.heap h'->ExcAt tr h₀ c e h'->Q () { s with heap:=h' }):wpAny M A (setFlight (.ref e) fr) Q E s:=by
 obtain⟨aq,⟨n,A3⟩,oe,vs,he,hc,hd,ht⟩:=hx
 unfold setFlight
 rcases ht with ⟨Oe,h1⟩ | ⟨T,oT,ts,f,h1,S1,hT,Qb,Og,h3⟩
 ·refine wpAny_bind (wpAny_field he hd h1 ?_)
  rw[if_neg (by decide)]
  exact wpAny_pure (hQ _ (Kept.refl _ _).n ⟨aq,⟨n,A3⟩,oe,vs,he,hc,hd,.inl ⟨Oe,h1⟩⟩)
 ·refine wpAny_bind (wpAny_field he hd h1 ?_)
  rw[if_pos (show (Value.ref T != Value.none)=true from by simp)]
  refine wpAny_setField hT Og (Array.getElem?_eq_some_iff.mp h3).1 ?_
  have Ug:T≠e:=fun q=>by
   refine eA A3.get fun o O O zz=>iV zz fun e' O nt O=>?_
   rw[q,e'] at hT;obtain rfl:=Option.some.inj hT;exact nt Qb
  have gj:=Obj.data_mapFields Og (·.setIfInBounds 3 (fr.elim Value.none fun f=>rawInt f))
  have Kg:=Heap.get?_update_self (Obj.mapFields (·.setIfInBounds 3 (fr.elim Value.none fun f=>rawInt f))) hT (Obj.isFreed_of_fields gj)
  have other:∀ b,b≠T->(s.heap.update T (Obj.mapFields (·.setIfInBounds 3 (fr.elim Value.none fun f=>rawInt f)))).get? b=s.heap.get? b:=fun b hb=>Heap.get?_update_other _ _ (Ne.symm hb)
  refine hQ _ (fun b o hb hq=>.inl ((other b fun q=>?_).trans hb)) ⟨aq,⟨n,?_⟩,oe,vs,(other e (Ne.symm Ug)).trans he,hc,hd,.inr ⟨T,_,_,_,h1,S1,Kg,(Obj.cls_mapFields _ _).trans Qb,gj,Array.getElem?_setIfInBounds_self_of_lt (Array.getElem?_eq_some_iff.mp h3).1⟩⟩
  ·subst q
   rw[hT] at hb;obtain rfl:=Option.some.inj hb
   rcases hq with hq | hq
   ·exact hq ts Og
   ·exact hq S1
  ·exact A3.keeps fun O b o O O e O nt=>(other b fun q=>by rw[q,hT] at e;obtain rfl:=Option.some.inj e;exact nt Qb).trans e
theorem iC {env:Env}{outer:List Env}{L e:Addr}{c:Value}{Q:Unit->Shared->Prop}{tr:Bool}
  (yt:A.frames=some (env::outer)) (hl:Frames base s.heap (env::outer)) (hf:env.frame=some L) (hx:ExcAt tr h₀ c e s.heap) (hk:Kept base h₀ s.heap)
  (hQ:∀ h',cV base h₀ s.heap h'->ExcAt true h₀ c e h'->Q () { s with heap:=h' }):wpAny M A (noteFrame (.ref e) env) Q E s:=by
 have Oh:∀ (s:Shared) (head:Value) (b:Bool) (Q:Unit->Shared->Prop),Frames base s.heap (env::outer)->Kept base h₀ s.heap->
   (h₀.get? e=none/\(∃ n,Chain s.heap n e)/\∃ oe vs,s.heap.get? e=some oe/\oe.cls=c/\oe.data=.fields vs/\1<vs.size)->
   (∀ h',cV base h₀ s.heap h'->ExcAt true h₀ c e h'->Q () { s with heap:=h' })->
   wpAny M A (do let a <- frameOf env;let pl <- entryPlaceOf L b;let t <- EntryCells.newEntry head a .none (rawInt L) .none pl;setField (.ref e) 1 t) Q E s:=by
  intro s head b Q hl hk ⟨aq,⟨n,A3⟩,oe,vs,he,hc,hd,j4⟩ hQ
  refine wpAny_bind (wpAny_frameOf_fun yt hl.fun hf fun ai Kh=>?_)
  have k₁:=hl.slots Kh
  refine wpAny_bind (wpAny_entryPlaceOf fun pl zr=>?_)
  unfold EntryCells.newEntry newFields
  refine wpAny_bind (wpAny_newObj_type ?_ (zr.sizeOk5 _ _ _ _ _))
  have Zu:¬ book oe:=by
   refine eA A3.get fun o O O zz=>b5 zz fun e' nf O=>?_
   rw[he] at e';obtain rfl:=Option.some.inj e';exact nf
  have Qc:=k₁.get he Zu
  have Qd:=Heap.get?_push_of_some (h:=ai) { cls:=.type "traceback",dict:=none,data:=.fields ([head,.ref L,.none,rawInt L,.none]++(if pl.isEmpty then List.replicate 6 Value.none else pl)).toArray } Qc
  refine wpAny_setField Qd hd j4 ?_
  have Ug:ai.objs.size≠e:=Nat.ne_of_gt (Heap.lt_size Qc)
  have gj:=Obj.data_mapFields hd (·.setIfInBounds 1 (Value.ref ai.objs.size))
  have uD:=Heap.get?_update_self (Obj.mapFields (·.setIfInBounds 1 (Value.ref ai.objs.size))) Qd (Obj.isFreed_of_fields gj)
  have Kg:=(Heap.get?_update_other (ai.push { cls:=.type "traceback",dict:=none,data:=.fields ([head,.ref L,.none,rawInt L,.none]++(if pl.isEmpty then List.replicate 6 Value.none else pl)).toArray })
   (Obj.mapFields (·.setIfInBounds 1 (Value.ref ai.objs.size))) (Ne.symm Ug)).trans (Heap.get?_push_size ai rfl)
  have keep:∀ b o,b≠e->ai.get? b=some o->((ai.push { cls:=.type "traceback",dict:=none,data:=.fields ([head,.ref L,.none,rawInt L,.none]++(if pl.isEmpty then List.replicate 6 Value.none else pl)).toArray }).update e (Obj.mapFields (·.setIfInBounds 1 (Value.ref ai.objs.size)))).get? b=some o:=
   fun b o S2 hb=>by
    rw[Heap.get?_update_other _ _ (Ne.symm S2)]
    exact Heap.get?_push_of_some _ hb
  refine hQ _ (fun b o hb hq=>?_) ⟨aq,⟨n,?_⟩,_,_,uD,(Obj.cls_mapFields _ _).trans hc,gj,.inr ⟨ai.objs.size,_,_,rawInt L,by simp[j4],hk.missing ?_,Kg,rfl,rfl,by first | (simp;done) | (rcases zr with rfl | ⟨_,_,_,_,_,_,_,rfl⟩<;>simp;done)⟩⟩
  ·have S2:b≠e:=fun q=>by
    subst q
    rw[he] at hb;obtain rfl:=Option.some.inj hb
    rcases hq with hq | hq
    ·exact hq vs hd
    ·exact hq aq
   rcases k₁ b o hb with e₁ | ⟨n,c,f,sl,e₁⟩
   ·exact .inl (keep b o S2 e₁)
   ·exact .inr ⟨n,c,f,sl,keep b _ S2 e₁⟩
  ·refine eA A3.get fun o Zv v zz=>zl zz fun e' nf nt kx h2 hr=>?_
   rw[he] at e';obtain rfl:=Option.some.inj e'
   rw[hd] at kx;obtain rfl:=Data.fields.inj kx
   have pF:(vs.setIfInBounds 1 (Value.ref ai.objs.size))[2]?=some v:=by rw[Array.getElem?_setIfInBounds_ne (by decide)];exact h2
   rcases hr with ⟨rfl,rfl⟩ | ⟨b,m,rfl,rfl,ch⟩
   ·exact .last uD (gS gj) (by rw[Obj.cls_mapFields];exact nt) gj pF
   ·refine .more uD (gS gj) (by rw[Obj.cls_mapFields];exact nt) gj pF (ch.keeps fun m' b' o Dg c' e' hf O=>keep b' o (fun q=>?_) (k₁.get e' hf))
    subst q
    have:=A3.uniq c'
    lia
  ·cases q:s.heap.get? ai.objs.size with
   | none=>rfl
   | some o=>
    refine Exists.elim (k₁.same q) fun o' zz=>aB zz fun e' O=>?_
    exact absurd (Heap.lt_size e') (Nat.lt_irrefl _)
 obtain⟨aq,⟨n,A3⟩,oe,vs,he,hc,hd,ht⟩:=hx
 unfold noteFrame
 simp only[hf]
 rcases ht with ⟨Oe,h1⟩ | ⟨T,oT,ts,f,h1,S1,hT,Qb,Og,h3⟩
 ·refine wpAny_bind (wpAny_field he hd h1 ?_)
  rw[if_neg (by decide)]
  exact Oh s _ _ _ hl hk ⟨aq,⟨n,A3⟩,oe,vs,he,hc,hd,(Array.getElem?_eq_some_iff.mp h1).1⟩ hQ
 ·refine wpAny_bind (wpAny_field he hd h1 ?_)
  rw[if_pos (show (Value.ref T != Value.none)=true from by simp)]
  refine wpAny_bind (wpAny_field hT Og h3 ?_)
  by_cases hfl:(f == rawInt L)=true
  ·rw[if_pos hfl]
   exact wpAny_pure (hQ _ (Kept.refl _ _).n ⟨aq,⟨n,A3⟩,oe,vs,he,hc,hd,.inr ⟨T,oT,ts,f,h1,S1,hT,Qb,Og,h3⟩⟩)
  ·rw[if_neg hfl]
   refine wpAny_bind (wpAny_setField hT Og (Array.getElem?_eq_some_iff.mp h3).1 ?_)
   have Ug:e≠T:=fun q=>by
    refine eA A3.get fun o O O zz=>iV zz fun e' O nt O=>?_
    rw[<- q,e'] at hT;obtain rfl:=Option.some.inj hT;exact nt Qb
   have other:∀ b,b≠T->(s.heap.update T (Obj.mapFields (·.setIfInBounds 3 Value.none))).get? b=s.heap.get? b:=fun b hb=>Heap.get?_update_other _ _ (Ne.symm hb)
   have kn:cV base h₀ s.heap (s.heap.update T (Obj.mapFields (·.setIfInBounds 3 Value.none))):=fun b o hb hq=>.inl ((other b fun q=>by
    subst q
    rw[hT] at hb;obtain rfl:=Option.some.inj hb
    rcases hq with hq | hq
    ·exact hq ts Og
    ·exact hq S1).trans hb)
   refine Oh { s with heap:=s.heap.update T (Obj.mapFields (·.setIfInBounds 3 Value.none)) } _ _ _ (hl.uC kn) (hk.after kn) ⟨aq,⟨n,A3.keeps fun O b o O O e O nt=>(other b fun q=>by rw[q,hT] at e;obtain rfl:=Option.some.inj e;exact nt Qb).trans e⟩,oe,vs,(other e Ug).trans he,hc,hd,(Array.getElem?_eq_some_iff.mp h1).1⟩ fun h' k' x'=>hQ h' (kn.trans k') x'
end
theorem ky:entryFor table "proto.unchain"=some Builtin.«proto.unchain»:=entryFor_of_tree (by kernel_rfl)
theorem kz:plainId "proto.unchain"=true:=by decide +kernel
inductive Path (h:Heap):Addr->Addr->Prop
 | refl (a:Addr):Path h a a
 | step {a b c:Addr}{o:Obj}{vs:Array Value}:h.get? a=some o->o.data=.fields vs->vs[2]?=some (.ref b)->Path h b c->Path h a c
theorem Path.snoc {h:Heap}{a b c:Addr}{o:Obj}{vs:Array Value} (p:Path h a b) (e:h.get? b=some o) (hd:o.data=.fields vs) (h2:vs[2]?=some (.ref c)):Path h a c:=by
 induction p with
 | refl a=>exact .step e hd h2 (.refl _)
 | step e' kx pF _ ih=>exact .step e' kx pF (ih e)
section
variable {prog:Program}{w:World}{A:Around}{E:Value->Shared->Prop}
theorem Bk {base h₀:Heap}{e:Addr}{s:Shared}{R:Result->Shared->Prop} (k:Kept base h₀ s.heap) (hn:h₀.get? e=none) (hR:R (.ok (.ret .none)) s) :
  ∀ {n:Nat}{a:Addr},Chain h₀ n a->∀ (slow:Addr) (b:Bool),Path s.heap slow a->
  codeAny (model prog w) A (.builtin "proto.unchain" ⟨[.ref e,.ref a,.ref slow,.bool b],[]⟩) R s:=by
 intro n a c
 induction c with
 | @last a o vs e0 hf ht hd h2=>
  intro slow b p
  have e1:=k.get e0 hf
  refine codeAny_builtin ky ?_
  unfold Builtin.«proto.unchain»
  show wpAny _ _ (field (.ref a) 2 >>= _) _ _ s
  refine wpAny_bind (wpAny_field e1 hd h2 ?_)
  rw[if_pos (by decide)]
  exact wpAny_pure hR
 | @more n a b' o vs e0 hf ht hd h2 c ih=>
  intro slow b p
  have e1:=k.get e0 hf
  refine codeAny_builtin ky ?_
  unfold Builtin.«proto.unchain»
  show wpAny _ _ (field (.ref a) 2 >>= _) _ _ s
  refine wpAny_bind (wpAny_field e1 hd h2 ?_)
  have S2:b'≠e:=fun q=>by
   refine eA c.get fun O O O zz=>aB zz fun eb O=>?_
   rw[q,hn] at eb;contradiction
  rw[if_neg (show ¬ (Value.ref b' == Value.none)=true from by simp)]
  rw[if_neg (show ¬ (Value.ref b' == Value.ref e)=true from by simp;exact S2)]
  by_cases hs:(Value.ref b' == Value.ref slow)=true
  ·rw[if_pos hs]
   exact wpAny_bind (wpAny_rule (wpAny_pure hR))
  ·rw[if_neg hs]
   cases b with
   | false=>
    refine wpAny_bind (wpAny_pure ?_)
    exact wpAny_pure ⟨plainId_quiet kz _,ih slow true (p.snoc e1 hd h2)⟩
   | true=>
    have q:∃ Oi pH Dh,s.heap.get? slow=some pH/\pH.data=.fields Dh/\Dh[2]?=some (.ref Oi)/\Path s.heap Oi b':=by
     cases p with
     | refl=>exact⟨_,_,_,e1,hd,h2,.refl _⟩
     | step e' kx pF p'=>exact⟨_,_,_,e',kx,pF,p'.snoc e1 hd h2⟩
    refine eA q fun Oi pH Dh zz=>iV zz fun q1 q2 q3 q4=>?_
    refine wpAny_bind (wpAny_field q1 q2 q3 ?_)
    exact wpAny_pure ⟨plainId_quiet kz _,ih Oi false q4⟩
def cy (A:Around) (h₀:Heap):Prop:=A.handled=none∨∃ a n,A.handled=some (.ref a)/\Chain h₀ n a
theorem jq {α:Type}{base h₀:Heap}{s:Shared}{e:Addr}{o:Obj}{vs:Array Value}{c:Value}{Q:α->Shared->Prop}
  (hh:cy A h₀) (k:Kept base h₀ s.heap)
  (he:s.heap.get? e=some o) (hc:o.cls=c) (hf:c≠.type "frame") (ht:c≠.type "traceback") (hd:o.data=.fields vs) (h1:vs[1]?=some .none) (h2:vs[2]?=some .none) (hn:h₀.get? e=none)
  (hE:∀ h',(∀ b o',b≠e->s.heap.get? b=some o'->h'.get? b=some o')->ExcAt false h₀ c e h'->E (.ref e) { s with heap:=h' }) :
  wpAny (model prog w) A (raiseNew (.ref e):Sem α) Q E s:=by
 unfold raiseNew
 refine wpAny_bind (wpAny_handled ?_)
 rcases hh with hh | ⟨a,n,hh,ch⟩
 ·rw[hh]
  refine wpAny_bind (wpAny_pure (wpAny_throw (hE _ (fun O O O q=>q) ⟨hn,⟨0,.last he (gS hd) (hc ▸ ht) hd h2⟩,o,vs,he,hc,hd,.inl ⟨rfl,h1⟩⟩)))
 ·rw[hh]
  have Zw:a≠e:=fun q=>by
   refine eA ch.get fun O O O zz=>aB zz fun eb O=>?_
   rw[q,hn] at eb;contradiction
  have aq:(Value.ref a != Value.ref e)=true:=by simp;exact Zw
  dsimp only
  rw[if_pos aq]
  refine wpAny_bind (wpAny_holding (wpAny_runValue ?_))
  refine Bk k hn ?_ ch a false (.refl _)
  show wpAny _ _ (setField (.ref e) 2 (.ref a) >>= _) _ _ _
  refine wpAny_bind ?_
  have j4:2<vs.size:=(Array.getElem?_eq_some_iff.mp h2).1
  refine wpAny_setField he hd j4 ?_
  have gj:=Obj.data_mapFields hd (·.setIfInBounds 2 (Value.ref a))
  have uD:=Heap.get?_update_self (Obj.mapFields (·.setIfInBounds 2 (Value.ref a))) he (Obj.isFreed_of_fields gj)
  have other:∀ b,b≠e->(s.heap.update e (Obj.mapFields (·.setIfInBounds 2 (Value.ref a)))).get? b=s.heap.get? b:=fun b hb=>Heap.get?_update_other _ _ (Ne.symm hb)
  refine wpAny_throw (hE _ (fun b o' hb q=>(other b hb).trans q) ⟨hn,⟨n+1,.more uD (gS gj) (by rw[Obj.cls_mapFields,hc];exact ht) gj (by rw[Array.getElem?_setIfInBounds_self_of_lt j4]) ?_⟩,_,_,uD,(Obj.cls_mapFields _ _).trans hc,gj,.inl ⟨rfl,?_⟩⟩)
  ·refine ch.keeps fun m b o O c' q nf O=>(other b fun q'=>?_).trans (k.get q nf)
   rw[q',hn] at q;contradiction
  ·rw[Array.getElem?_setIfInBounds_ne (by decide)];exact h1
theorem cy.kept {base h h':Heap} (x:cy A h) (k:Kept base h h'):cy A h':=by
 rcases x with x | ⟨a,n,x,c⟩
 ·exact .inl x
 ·exact .inr ⟨a,n,x,c.kept k⟩
theorem lq {base h₀:Heap}{s:Shared}{e:Addr}{o:Obj}{t:Value}{c:Value}{Q:Flow->Shared->Prop} (hh:cy A h₀) (k:Kept base h₀ s.heap)
  (he:s.heap.get? e=some o) (hc:o.cls=c) (hf:c≠.type "frame") (ht:c≠.type "traceback") (hd:o.data=.fields #[t,.none,.none,.none,.bool false,.none]) (hn:h₀.get? e=none)
  (hE:∀ h',Kept base h₀ h'->cV base h₀ s.heap h'->ExcAt false h₀ c e h'->E (.ref e) { s with heap:=h' }) :
  wpAny (model prog w) A (do setFlight (.ref e) none;raiseNew (.ref e)) Q E s:=by
 unfold setFlight
 refine wpAny_bind (wpAny_bind (wpAny_field (i:=1) (x:=Value.none) he hd rfl ?_))
 rw[if_neg (by decide)]
 refine wpAny_pure (jq hh k he hc hf ht hd rfl rfl hn fun h' hk hx=>?_)
 have kn:cV base h₀ s.heap h':=fun b o' q hq=>.inl (hk b o' (fun q'=>by
  subst q'
  rw[he] at q;obtain rfl:=Option.some.inj q
  rcases hq with hq | hq
  ·exact hq _ hd
  ·exact hq hn) q)
 exact hE h' (k.after kn) kn hx
theorem kA {base h₀:Heap}{env:Env}{s:Shared}{X N I:String}{x:Str}{np pos:Pos}{Q:Flow->Shared->Prop} (hh:cy A h₀) (k:Kept base h₀ s.heap) (hc:ExcClass X N I)
  (C9:isSubtype (.type X) (.type X)=pure true) (hf:X≠"frame") (ht:X≠"traceback")
  (hx:wpAny (model prog w) A (eval (.Name x np) env) (fun v s₁=>v=.type X/\s₁=s) E s)
  (h:∀ h' e tk,Kept base h₀ h'->cV base h₀ s.heap h'->ExcAt false h₀ (.type X) e h'->E (.ref e) { s with heap:=h',toks:=tk }) :
  wpAny (model prog w) A (exec (.Raise (some (.Name x np)) none pos) env) Q E s:=by
 show wpAny (model prog w) A (do standAt pos;raiseStmt env (some (do let v <- eval (.Name x np) env;standAt pos;pure v)) none) Q E s
 refine wpAny_bind (wpAny_standAt ?_)
 unfold raiseStmt
 dsimp only
 refine wpAny_bind (wpAny_bind (wpAny_mono hx (fun v s₁ ai=>wpAny_bind (wpAny_standAt (wpAny_pure ?_))) fun O O e=>e))
 refine aB ai fun av Kh=>?_;try clear ai;subst av
 subst s₁
 refine wpAny_bind (wpAny_pure ?_)
 dsimp only
 refine wpAny_bind (wpAny_holding ?_)
 unfold excFromValue isExcClass
 refine wpAny_bind (wpAny_bind (wpAny_pure ?_))
 simp only[if_true]
 rw[hc.base]
 refine wpAny_pure ?_
 simp only[if_true]
 refine wpAny_bind (call_exc hc fun h' e hn=>?_)
 refine bT hn.there fun ob t zz=>b5 zz fun he Uh hd=>?_
 have hT:({ s with heap:=h' }:Shared).TypeIs (.ref e) X:=⟨ob,he,Uh⟩
 refine wpAny_bind (wpAny_isInstance hT hc.base ?_)
 simp only[Bool.not_true,Bool.false_eq_true,if_false]
 refine wpAny_pure ?_
 refine wpAny_bind (m:=isType (.type X)) (wpAny_pure ?_)
 rw[if_pos rfl]
 refine wpAny_bind (wpAny_holding ?_)
 unfold raisedFor
 simp only[Bool.false_eq_true,if_false]
 refine wpAny_bind (wpAny_typeOf hT ?_)
 refine wpAny_bind (call_issubclass (issubclass_self hc C9) ?_)
 refine wpAny_bind (wpAny_truthy_bool ?_)
 simp only[if_true]
 refine wpAny_pure ?_
 have k':Kept base h₀ h':=k.trans (.of_keeps hn.keeps)
 refine lq hh k' he Uh (by simpa using hf) (by simpa using ht) hd (k.missing hn.new) fun L8 k₂ kn hx=>h L8 e _ k₂ ?_ hx
 exact (Kept.of_keeps hn.keeps).n.trans kn
section
variable {nm q:Str}{C N:Addr}{bs bm X7:List Value}{Rx:Bool}{sn:List Str}{sub:List Value}{ab:Bool}{col:Option Bool}{dd:Option Addr}{k0 k1 k2 k3 k5:Option Value}{B newId Ry:String}
theorem rH {s:Shared}{R:Result->Shared->Prop} (hC:s.heap.get? C=some (excClassObj nm q C N bs bm Rx sn sub ab col dd k0 k1 k2 k3 k5 newId))
  (hq:R (.ok (.ret (.bool true))) s):wpAny (model prog w) A.in1 (Builtin.«issubclass» ⟨[.ref C,.ref C],[]⟩)
   (fun fin s'=>match fin with | .done f=>R (.ok f) s' | .again c'=>c'.quiet=true/\codeAny (model prog w) A c' R s') (fun e s'=>R (.error e) s') s:=by
 obtain⟨h,g,d,t,os⟩:=s
 refine issubclass_outer ?_
 have hT:(⟨h,g,d,t,os⟩:Shared).TypeIs (.ref C) "type":=⟨_,hC,rfl⟩
 repeat (any_goals (first | assumption | with_reducible refine wpAny_loadPart_at hC ?_ | (with_reducible refine wpAny_isSubtype_exc hC ?_;rw[show (Value.ref C::bm).contains (.ref C)=true from by simp]) | wp_step))
theorem Hg {base h₀:Heap}{env:Env}{s:Shared}{x:Str}{np pos:Pos}{Q:Flow->Shared->Prop} (hh:cy A h₀) (k:Kept base h₀ s.heap)
  (F:ExcBaseFacts B newId Ry X7) (T:OwnTail s.heap X7 bm) {mN:Str->Option Value}
  (hC:s.heap.get? C=some (excClassObj nm q C N bs bm Rx sn sub ab col dd k0 k1 k2 k3 k5 newId)) (hn:s.heap.Ns N mN) (WM:mN "__init__"=none)
  (hx:wpAny (model prog w) A (eval (.Name x np) env) (fun v s₁=>v=.ref C/\s₁=s) E s)
  (h:∀ h' e tk,Kept base h₀ h'->cV base h₀ s.heap h'->ExcAt false h₀ (.ref C) e h'->E (.ref e) { s with heap:=h',toks:=tk }) :
  wpAny (model prog w) A (exec (.Raise (some (.Name x np)) none pos) env) Q E s:=by
 have X8:(Value.ref C::bm).contains (.type "BaseException")=true:=by rw[List.contains_cons,T.hasType F.hasBase,Bool.or_true]
 show wpAny (model prog w) A (do standAt pos;raiseStmt env (some (do let v <- eval (.Name x np) env;standAt pos;pure v)) none) Q E s
 refine wpAny_bind (wpAny_standAt ?_)
 unfold raiseStmt
 dsimp only
 refine wpAny_bind (wpAny_bind (wpAny_mono hx (fun v s₁ ai=>wpAny_bind (wpAny_standAt (wpAny_pure ?_))) fun O O e=>e))
 refine aB ai fun av Kh=>?_;try clear ai;subst av
 subst s₁
 refine wpAny_bind (wpAny_pure ?_)
 dsimp only
 refine wpAny_bind (wpAny_holding ?_)
 obtain⟨hp,g,d,tk,os⟩:=s
 unfold excFromValue isExcClass
 refine wpAny_bind (wpAny_bind (m:=isType (.ref C)) (wpAny_bind (wpAny_loadPart hC (wpAny_pure ?_))))
 simp only[if_true]
 refine wpAny_isSubtype_exc hC ?_
 rw[X8]
 simp only[if_true]
 refine wpAny_bind (wpAny_call_exc_subT F T hC hn WM fun h' e hm=>?_)
 refine Exists.elim hm.there fun t zz=>b5 zz fun he O O=>?_
 have WN:=hm.keeps _ _ hC
 have hT:(⟨h',g,d,tk,os⟩:Shared).heap.get? e=_:=he
 unfold isInstance
 refine wpAny_bind (wpAny_bind (m:=typeOf (.ref e)) (wpAny_bind (wpAny_loadPart he (wpAny_pure (wpAny_isSubtype_exc WN ?_)))))
 rw[X8]
 simp only[Bool.not_true,Bool.false_eq_true,if_false]
 refine wpAny_pure ?_
 refine wpAny_bind (m:=isType (.ref C)) (wpAny_bind (wpAny_loadPart WN (wpAny_pure ?_)))
 simp only[if_true]
 refine wpAny_bind (wpAny_holding ?_)
 unfold raisedFor
 simp only[Bool.false_eq_true,if_false]
 refine wpAny_bind (m:=typeOf (.ref e)) (wpAny_bind (wpAny_loadPart he (wpAny_pure ?_)))
 refine wpAny_bind (call_function_meets PySem.F.kind_issubclass PySem.F.plain_issubclass PySem.F.entry_issubclass (PySem.F.args_issubclass_2 _ _) (S:=fun A R s=>s=⟨h',g,d,tk,os⟩/\R (.ok (.ret (.bool true))) s) (fun O O A R s hs=>?_) ?_)
 ·refine aB hs fun av hs=>?_;subst av
  exact rH WN hs
 refine⟨rfl,?_⟩
 refine wpAny_bind (wpAny_truthy_bool ?_)
 simp only[if_true]
 refine wpAny_pure ?_
 have k':Kept base h₀ h':=k.trans (.of_keeps hm.keeps)
 refine lq (s:=⟨h',g,d,tk,os⟩) hh k' he rfl (by simp) (by simp) rfl (k.missing hm.new) fun L8 k₂ kn hx=>h L8 e _ k₂ ?_ hx
 exact (Kept.of_keeps hm.keeps).n.trans kn
end
theorem uE {T:String}{args:List Value}{v5:Value}{Q:Value->Shared->Prop}{s:Shared} (h5:firstArgMember (.type T) args=pure v5) (ho:ownMembersOf (.type T) args=#[]) (hl:args.length<=sizeLine)
  (h:∀ h' e t,(∀ b o,s.heap.get? b=some o->h'.get? b=some o)->s.heap.get? e=none->h'.get? e=some { cls:=.type T,data:=.fields #[t,.none,.none,.none,.bool false,v5] }->Q (.ref e) { s with heap:=h' }) :
  wpAny (model prog w) A (newExc (.type T) args) Q E s:=by
 unfold newExc newTuple
 refine wpAny_bind (wpAny_newObj_type ?_ (by show args.toArray.size<=sizeLine;simpa using hl))
 refine wpAny_bind (wpAny_of_eq h5 ?_)
 rw[ho]
 refine wpAny_newObj_type ?_ (by show (#[_,_,_,_,_,_]++#[]).size<=sizeLine+2;rw[sizeLine_eq];simp)
 refine h _ _ (.ref s.heap.objs.size) (fun b o q=>Heap.get?_push_of_some _ (Heap.get?_push_of_some _ q)) ?_ ?_
 ·refine Heap.get?_none_of_le ?_
  rw[Heap.size_push];exact Nat.le_succ _
 ·exact Heap.get?_push_size _ rfl
theorem oY {α:Type}{base:Heap}{T:String}{s:Shared}{msg:PySem.Str}{Q:α->Shared->Prop} (hh:cy A s.heap) (h5:∀ a,firstArgMember (.type T) [a]=pure .none) (ho:∀ a,ownMembersOf (.type T) [a]=#[])
  (hf:T≠"frame") (ht:T≠"traceback") (m:Sem Value) (hm:∀ (Q E:Value->Shared->Prop),(∀ v tk,Q v { s with toks:=tk })->wpAny (model prog w) A m Q E s)
  (h:∀ e h' tk,Kept base s.heap h'->ExcAt false s.heap (.type T) e h'->E (.ref e) { s with heap:=h',toks:=tk }) :
  wpAny (model prog w) A (do raiseNew (<- newExc (.type T) [<- m]):Sem α) Q E s:=by
 refine wpAny_bind (hm _ _ fun v tk=>wpAny_bind (uE (h5 v) (ho v) (by show 1<=sizeLine;decide) fun h' e t hk hn he=>?_))
 refine jq (base:=base) (s:={ s with heap:=h',toks:=tk }) hh (.of_keeps hk) he rfl (by simpa using hf) (by simpa using ht) rfl rfl rfl hn fun L8 S0 hx=>h e L8 tk (.of_keeps fun b o q=>S0 b o (fun z=>?_) (hk b o q)) hx
 rw[z,hn] at q;contradiction
theorem nY {α:Type}{base:Heap}{T msg:String}{s:Shared}{Q:α->Shared->Prop} (hh:cy A s.heap) (h5:∀ a,firstArgMember (.type T) [a]=pure .none) (ho:∀ a,ownMembersOf (.type T) [a]=#[])
  (hf:T≠"frame") (ht:T≠"traceback") (hs:(msg:PySem.Str).length<=sizeLine)
  (h:∀ e h' tk,Kept base s.heap h'->ExcAt false s.heap (.type T) e h'->E (.ref e) { s with heap:=h',toks:=tk }) :
  wpAny (model prog w) A (raiseErrorMade T msg:Sem α) Q E s:=
 oY (msg:=msg) hh h5 ho hf ht (mkStr msg) (fun Q E hq=>wpAny_mkStr (hq _ _) hs) h
theorem my {α:Type}{base:Heap}{T msg:String}{s:Shared}{Q:α->Shared->Prop} (hh:cy A s.heap) (h5:∀ a,firstArgMember (.type T) [a]=pure .none) (ho:∀ a,ownMembersOf (.type T) [a]=#[])
  (hf:T≠"frame") (ht:T≠"traceback")
  (h:∀ e h' tk,Kept base s.heap h'->ExcAt false s.heap (.type T) e h'->E (.ref e) { s with heap:=h',toks:=tk }) :
  wpAny (model prog w) A (raiseErrorWords T msg:Sem α) Q E s:=
 oY (msg:=msg) hh h5 ho hf ht (mkText msg) (fun Q E hq=>wpAny_mkText (hq _ _)) h
theorem Bl (a:Value):firstArgMember (.type "TypeError") [a]=pure .none:=by first | rfl | (simp only[firstArgMember];rfl)
theorem first_value (a:Value):firstArgMember (.type "ValueError") [a]=pure .none:=by first | rfl | (simp only[firstArgMember];rfl)
theorem Ki (a:Value):ownMembersOf (.type "TypeError") [a]=#[]:=rfl
theorem Hh (a:Value):ownMembersOf (.type "ValueError") [a]=#[]:=rfl
end
def Var (h:Heap) (ec:Env) (x:Str) (v:Value):Prop:=
 (ec.kindOf x=some .local/\∃ m,h.Ns ec.locals m/\m x=some v)∨((ec.kindOf x=some .cell∨ec.kindOf x=some .free)/\∃ c,ec.cells.lookup x=some c/\h.IsCell c (some v))
theorem Var.kept {base h h':Heap}{ec:Env}{x:Str}{v:Value} (y:Var h ec x v) (k:Kept base h h'):Var h' ec x v:=by
 rcases y with ⟨a,m,n,e⟩ | ⟨a,c,e,n⟩
 ·exact .inl ⟨a,m,k.ns n,e⟩
 ·exact .inr ⟨a,c,e,k.cell n⟩
noncomputable def b0 (h:Heap) (X:Addr->Prop) (a:Addr):V->Prop
 | .list ds=>∃ o vs n,h.get? a=some o/\o.cls=.type "list"/\o.dict=none/\o.data=.seq vs n/\ds.length<=16777216/\ay (seen (plus X a) h) ds vs.toList
 | .b9 x=>∃ o y n,h.get? a=some o/\o.cls=.type "bytearray"/\o.dict=none/\o.data=.bytearray y n/\n=0/\y.toList.map UInt8.toNat=x/\x.length<=16777216
 | _=>False
theorem b0.rep {h:Heap}{X:Addr->Prop}{a:Addr} (hX:¬ X a):∀ {d:V},b0 h X a d->Rep (seen X h) d (.ref a)
 | .list ds,⟨o,vs,n,e,c,_,hd,hl,r⟩=>by skip;exact⟨a,o,vs,n,rfl,⟨e,hX⟩,c,hd,hl,r.drop'⟩
 | .b9 x,⟨o,y,n,e,c,_,hd,r⟩=>by skip;exact⟨a,o,y,n,rfl,⟨e,hX⟩,c,hd,r⟩
 | .none,h=>h.elim
 | .bool _,h=>h.elim
 | .int _,h=>h.elim
 | .str _,h=>h.elim
 | .bytes _,h=>h.elim
 | .tuple _,h=>h.elim
theorem b0.kept {base h h':Heap} (k:Kept base h h') {X:Addr->Prop}{a:Addr}:∀ {d:V},b0 h X a d->b0 h' X a d
 | .list ds,⟨o,vs,n,e,c,dn,hd,hl,r⟩=>⟨o,vs,n,k.get e (cC hd),c,dn,hd,hl,k.j5 r⟩
 | .b9 x,⟨o,y,n,e,c,dn,hd,r⟩=>⟨o,y,n,k.get e (dM hd),c,dn,hd,r⟩
 | .none,h=>h.elim
 | .bool _,h=>h.elim
 | .int _,h=>h.elim
 | .str _,h=>h.elim
 | .bytes _,h=>h.elim
 | .tuple _,h=>h.elim
noncomputable abbrev Owner:=Option (Nat × Addr)
def eB (h:Heap) (X:Addr->Prop) (own:Owner) (i:Nat) (d:V) (v:Value):Prop:=
 match own with
 | some (aaH,a)=>if i=aaH then v=.ref a/\b0 h X a d else Rep (seen (plus X a) h) d v
 | none=>Rep (seen X h) d v
def Oj (h:Heap) (X:Addr->Prop) (own:Owner) (ec:Env) (j:List (Str × Nat)) (J:Ρ):Prop:=
 ∀ x i d,j.lookup x=some i->J[i]?=some (some d)->∃ v,Var h ec x v/\eB h X own i d v
theorem eB.kept {base h h':Heap} (k:Kept base h h') {X:Addr->Prop}{own:Owner}{i:Nat}{d:V}{v:Value} (r:eB h X own i d v):eB h' X own i d v:=by
 cases own with
 | none=>exact k.rep r
 | some z=>
  obtain⟨aaH,a⟩:=z
  change ite (i=aaH) _ _ at r
  show ite (i=aaH) _ _
  by_cases e:i=aaH
  ·rw[if_pos e] at r ⊢;exact⟨r.1,r.2.kept k⟩
  ·rw[if_neg e] at r ⊢;exact k.rep r
theorem Oj.kept {base h h':Heap} (k:Kept base h h') {X:Addr->Prop}{own:Owner}{ec:Env}{j:List (Str × Nat)}{J:Ρ} (r:Oj h X own ec j J):Oj h' X own ec j J:=fun x i d e1 e2=>
 let ⟨v,a,b⟩:=r x i d e1 e2;⟨v,a.kept k,b.kept k⟩
structure Cx (base:Heap) (A:Around) (h:Heap) (k:Nat):Prop where
 stack:∃ l,A.frames=some l/\Frames base h l
 stays:base.StaysIn h
 held:cy A h
 depth:A.depth+k<=900
 units:A.units+10*k<=9000
theorem Cx.kept {base h h':Heap}{A:Around}{k:Nat} (c:Cx base A h k) (x:Kept base h h'):Cx base A h' k:=
 ⟨let ⟨l,a,b⟩:=c.stack;⟨l,a,b.kept x⟩,x.stays c.stays,c.held.kept x,c.depth,c.units⟩
structure Ge (ec:Env):Prop where
 kind:ec.scope.kind=.function
 globals:ec.globals=mainGlobals
 builtins:ec.builtins=builtinsNs
 cells:∀ y,ec.kindOf y=some .cell∨ec.kindOf y=some .free->∃ c,ec.cells.lookup y=some c
def rI (X:Addr->Prop) (h h':Heap) (d:V) (v:Value):Prop:=
 match d with
 | .list _=>∃ a,v=.ref a/\h.get? a=none/\b0 h' X a d
 | .b9 _=>∃ a,v=.ref a/\h.get? a=none/\b0 h' X a d
 | _=>True
section
variable (prog:Program) (w:World) (base:Heap) (cl:dB->Value)
def Ex {α:Type} (s:Shared) (r:R α) (E:Value->Shared->Prop):Prop:=
 ∀ x e h' tk,r=.exc x->Kept base s.heap h'->ExcAt false s.heap (cl x) e h'->E (.ref e) { s with heap:=h',toks:=tk }
structure Po (X:Addr->Prop) (fr:Bool) (s:Shared) (r:R V) (Q E:Value->Shared->Prop):Prop where
 ok:∀ d v h' tk,r=.ok d->Kept base s.heap h'->Rep (seen X h') d v->(fr=true->rI X s.heap h' d v)->Q v { s with heap:=h',toks:=tk }
 ex:Ex base cl s r E
structure Rz (X:Addr->Prop) (s:Shared) (r:R (List V)) (Q:List Value->Shared->Prop) (E:Value->Shared->Prop):Prop where
 ok:∀ ds vs h' tk,r=.ok ds->Kept base s.heap h'->ay (seen X h') ds vs->Q vs { s with heap:=h',toks:=tk }
 ex:Ex base cl s r E
structure Qe (s:Shared) (r:R Bool) (Q:Bool->Shared->Prop) (E:Value->Shared->Prop):Prop where
 ok:∀ b h' tk,r=.ok b->Kept base s.heap h'->Q b { s with heap:=h',toks:=tk }
 ex:Ex base cl s r E
def Ev (A:Around) (X:Addr->Prop) (fr:Bool) (t:Sem Value) (s:Shared) (r:R V):Prop:=
 ∀ Q E,Po base cl X fr s r Q E->r≠.stuck->wpAny (model prog w) A t Q E s
def RA (A:Around) (t:Sem Bool) (s:Shared) (r:R Bool):Prop:=
 ∀ Q E,Qe base cl s r Q E->r≠.stuck->wpAny (model prog w) A t Q E s
end
theorem R.aN {α β:Type}{r:R α}{f:α->R β} (h:r.bind f≠.stuck):r≠.stuck:=fun e=>h (by rw[e];rfl)
theorem R.bN {α β:Type}{r:R α}{f:α->R β}{a:α} (e:r=.ok a):r.bind f=f a:=by rw[e];rfl
theorem R.aW {α β:Type}{r:R α}{f:α->R β}{a:α} (aq:r.bind f≠.stuck) (e:r=.ok a):f a≠.stuck:=by rw[R.bN e] at aq;exact aq
theorem rI.elder {base:Heap}{X:Addr->Prop}{ai aD bE:Heap}{d:V}{v:Value} (k:Kept base ai aD) (f:rI X aD bE d v):rI X ai bE d v:=by
 cases d with
 | list _=>exact Exists.elim f fun a zz=>⟨a,zz.1,k.missing zz.2.1,zz.2.2⟩
 | b9 _=>exact Exists.elim f fun a zz=>⟨a,zz.1,k.missing zz.2.1,zz.2.2⟩
 | _=>trivial
section
variable {prog:Program}{w:World}{base:Heap}{cl:dB->Value}{A:Around}{X:Addr->Prop}{s:Shared}{α:Type}
theorem Ex.of {β:Type}{r:R α}{f:α->R β}{E:Value->Shared->Prop} (p:Ex base cl s (r.bind f) E):Ex base cl s r E:=fun x e h' tk q=>p x e h' tk (by rw[q];rfl)
theorem Ex.move {r:R α}{h:Heap}{tk:Nat}{E:Value->Shared->Prop} (p:Ex base cl s r E) (k:Kept base s.heap h):Ex base cl { s with heap:=h,toks:=tk } r E:=
 fun x bK h' mz q k' y=>p x bK h' mz q (k.trans k') (y.elder k)
theorem Po.move {fr:Bool}{r:R V}{h:Heap}{tk:Nat}{Q E:Value->Shared->Prop} (p:Po base cl X fr s r Q E) (k:Kept base s.heap h):Po base cl X fr { s with heap:=h,toks:=tk } r Q E:=
 ⟨fun d v h' mz q k' y f=>p.ok d v h' mz q (k.trans k') y fun z=>(f z).elder k,p.ex.move k⟩
theorem Po.step {fr:Bool}{r:R α}{f:α->R V}{a:α}{h:Heap}{tk:Nat}{Q E:Value->Shared->Prop} (p:Po base cl X fr s (r.bind f) Q E) (e:r=.ok a) (k:Kept base s.heap h):Po base cl X fr { s with heap:=h,toks:=tk } (f a) Q E:=by
 rw[R.bN e] at p;exact p.move k
theorem Rz.move {r:R (List V)}{h:Heap}{tk:Nat}{Q:List Value->Shared->Prop}{E:Value->Shared->Prop} (p:Rz base cl X s r Q E) (k:Kept base s.heap h):Rz base cl X { s with heap:=h,toks:=tk } r Q E:=
 ⟨fun d v h' mz q k' y=>p.ok d v h' mz q (k.trans k') y,p.ex.move k⟩
theorem Rz.step {r:R α}{f:α->R (List V)}{a:α}{h:Heap}{tk:Nat}{Q:List Value->Shared->Prop}{E:Value->Shared->Prop} (p:Rz base cl X s (r.bind f) Q E) (e:r=.ok a) (k:Kept base s.heap h):Rz base cl X { s with heap:=h,toks:=tk } (f a) Q E:=by
 rw[R.bN e] at p;exact p.move k
theorem Qe.move {r:R Bool}{h:Heap}{tk:Nat}{Q:Bool->Shared->Prop}{E:Value->Shared->Prop} (p:Qe base cl s r Q E) (k:Kept base s.heap h):Qe base cl { s with heap:=h,toks:=tk } r Q E:=
 ⟨fun b h' mz q k'=>p.ok b h' mz q (k.trans k'),p.ex.move k⟩
theorem Qe.step {r:R α}{f:α->R Bool}{a:α}{h:Heap}{tk:Nat}{Q:Bool->Shared->Prop}{E:Value->Shared->Prop} (p:Qe base cl s (r.bind f) Q E) (e:r=.ok a) (k:Kept base s.heap h):Qe base cl { s with heap:=h,toks:=tk } (f a) Q E:=by
 rw[R.bN e] at p;exact p.move k
theorem Ev.stuck {fr:Bool}{t:Sem Value}:Ev prog w base cl A X fr t s .stuck:=fun O O O h=>absurd rfl h
theorem RA.stuck {t:Sem Bool}:RA prog w base cl A t s .stuck:=fun O O O h=>absurd rfl h
theorem Ev.guard {fr:Bool}{t:Sem Value}{c:Bool}{r:R V} (h:c=true->Ev prog w base cl A X fr t s r):Ev prog w base cl A X fr t s (R.guard c r):=by
 cases c with
 | true=>exact h rfl
 | false=>exact .stuck
theorem Ev.weak {fr:Bool}{t:Sem Value}{r:R V} (h:Ev prog w base cl A X fr t s r):Ev prog w base cl A X false t s r:=
 fun Q E p aq=>h Q E ⟨fun d v h' tk e k rp O=>p.ok d v h' tk e k rp fun q=>(by contradiction),p.ex⟩ aq
theorem Ev.val {fr:Bool}{t:Sem Value}{d:V} (h:∀ (Q E:Value->Shared->Prop),(∀ v h' tk,Kept base s.heap h'->Rep (seen X h') d v->(fr=true->rI X s.heap h' d v)->Q v { s with heap:=h',toks:=tk })->wpAny (model prog w) A t Q E s) :
  Ev prog w base cl A X fr t s (.ok d):=fun Q E p O=>h Q E fun v h' tk k r f=>p.ok d v h' tk rfl k r f
theorem Ev.flat {fr:Bool}{t:Sem Value}{d:V} (hd:∀ h h' v,rI X h h' d v) (h:∀ (Q E:Value->Shared->Prop),(∀ v tk,Rep (seen X s.heap) d v->Q v { s with toks:=tk })->wpAny (model prog w) A t Q E s) :
  Ev prog w base cl A X fr t s (.ok d):=.val fun Q E hQ=>h Q E fun v tk r=>hQ v s.heap tk (.refl _ _) r fun O=>hd _ _ _
theorem RA.val {t:Sem Bool}{b:Bool} (h:∀ (Q:Bool->Shared->Prop) (E:Value->Shared->Prop),(∀ tk,Q b { s with toks:=tk })->wpAny (model prog w) A t Q E s):RA prog w base cl A t s (.ok b):=
 fun Q E p O=>h Q E fun tk=>p.ok b s.heap tk rfl (.refl _ _)
end
open Sem (wp)
noncomputable def loud:List String:=["bytearray.__contains__","bytearray.find.held","bytearray.__mod__","bytearray.__rmod__","_struct.pack_into.held"]++Builtin.Bytes.decodersThatHold
noncomputable def calm:Code->Bool
 | .builtin id args=>!loud.contains id||!args.pos.any Value.onHeap
 | _=>true
def Kj (Γ:Ctx):Prop:=∀ x∈Γ.below,calm x.1=true
def Calm (Γ:Ctx):Prop:=calm Γ.code=true/\Kj Γ
theorem Calm.enter {Γ:Ctx} (h:Calm Γ) (c:Code) (hd:Option Value) (p:Pos):Kj (Γ.enter c hd p):=fun x hx=>by
 rcases List.mem_cons.mp hx with q | q
 ·rw[q];exact h.1
 ·exact h.2 x q
def aK {α:Type} (M:Model) (A:Around) (t:Sem α) (Q:α->Shared->Prop) (E:Value->Shared->Prop) (s:Shared):Prop:=
 ∀ Γ p,Γ.In A->Calm Γ->wp M Γ t (fun a O s'=>Q a s') (fun e O s'=>E e s') p s
def b8 (M:Model) (A:Around) (c:Code) (R:Result->Shared->Prop) (s:Shared):Prop:=
 ∀ Γ p,Γ.code=c->Γ.Below A->Kj Γ->wpCode M Γ R p s
section
variable {α β:Type}{M:Model}{A:Around}{E:Value->Shared->Prop}{s:Shared}
theorem _root_.PySem.wpAny.g {t:Sem α}{Q:α->Shared->Prop} (h:wpAny M A t Q E s):aK M A t Q E s:=fun Γ p a O=>h Γ p a
theorem _root_.PySem.codeAny.g {c:Code}{R:Result->Shared->Prop} (h:codeAny M A c R s):b8 M A c R s:=fun Γ p e a O=>h Γ p e a
theorem jr {t:Sem α}{Q Q':α->Shared->Prop}{E':Value->Shared->Prop} (h:aK M A t Q E s) (hQ:∀ a s,Q a s->Q' a s) (hE:∀ e s,E e s->E' e s):aK M A t Q' E' s:=
 fun Γ p a c=>Sem.wp_mono M Γ t (fun a O s=>hQ a s) (fun e O s=>hE e s) p s (h Γ p a c)
theorem aI {m:Sem α}{f:α->Sem β}{Q:β->Shared->Prop} (h:aK M A m (fun a s'=>aK M A (f a) Q E s') E s):aK M A (m >>= f) Q E s:=fun Γ p a c=>by
 rw[Sem.wp_bind']
 exact Sem.wp_mono M Γ m (fun x p' s' h'=>h' Γ p' a c) (fun O O O h'=>h') p s (h Γ p a c)
theorem aw {m:Sem α}{f:α->Sem β}{Q₁:α->Shared->Prop}{Q:β->Shared->Prop} (h:aK M A m Q₁ E s) (k:∀ a s',Q₁ a s'->aK M A (f a) Q E s'):aK M A (m >>= f) Q E s:=aI (jr h k fun O O e=>e)
theorem aF {a:α}{Q:α->Shared->Prop} (h:Q a s):aK M A (pure a) Q E s:=(wpAny_pure h).g
theorem au {f:Unit->Sem β}{pos:Pos}{Q:β->Shared->Prop} (h:aK M A (f ()) Q E s):aK M A (standAt pos >>= f) Q E s:=aI (wpAny_standAt h).g
theorem eU {m:Sem α}{a:α}{f:α->Sem β}{Q:β->Shared->Prop} (e:m=pure a) (h:aK M A (f a) Q E s):aK M A (m >>= f) Q E s:=by rw[e];exact aI (aF h)
theorem az {vs:List Value}{m:Sem α}{Q:α->Shared->Prop} (h:aK M A m Q E s):aK M A (holding vs m) Q E s:=fun Γ p a c=>by rw[Sem.wp_holding];exact h Γ p a c
theorem jW {m:Sem α}{k:Value->Sem Unit}{Q:α->Shared->Prop} (h:aK M A m Q (fun e s'=>wpAny M A (k e) (fun O v8=>E e v8) E s') s):aK M A (m.onRaise k) Q E s:=fun Γ p a c=>by
 rw[Sem.wp_onRaise]
 exact Sem.wp_mono M Γ m (fun O O O h'=>h') (fun e p' s' h'=>h' Γ p' a) p s (h Γ p a c)
theorem uF {m:Sem α}{Q:Except Value α->Shared->Prop} (h:aK M A m (fun a=>Q (.ok a)) (fun e=>Q (.error e)) s):aK M A m.attempt Q E s:=fun Γ p a c=>by rw[Sem.wp_attempt];exact h Γ p a c
theorem v9 {c:Code}{R R':Result->Shared->Prop} (h:b8 M A c R s) (hR:∀ r s,R r s->R' r s):b8 M A c R' s:=fun Γ p e a c=>wpCode_mono hR (h Γ p e a c)
theorem Qf {c:Code}{h:Option Value}{Q:Flow->Shared->Prop} (hc:b8 M (A.mark h) c (fun r s'=>match r with | .ok f=>Q f s' | .error e=>E e s') s) (RB:h≠some byPass:=by intro x;contradiction):aK M A (run c h) Q E s:=
 fun Γ p a k=>by rw[Sem.wp_run];exact hc _ p rfl (a.enter c h p RB) (k.enter c h p)
theorem lr {f:Value}{pos:List Value}{kw:List (Str × Value)}{Q:Value->Shared->Prop} (hc:b8 M A (.call f ⟨pos,kw⟩) (fun r s'=>match r with | .ok (.ret v)=>Q v s' | .ok _=>False | .error e=>E e s') s):aK M A (call f pos kw) Q E s:=
 fun Γ p a k=>by
  show wp M Γ (runValue (.call f ⟨pos,kw⟩)) _ _ _ _
  rw[Sem.wp_runValue]
  exact hc _ p rfl (a.enter _ none p (by intro x;contradiction)) (k.enter _ none p)
theorem jt {c:Code}{R:Result->Shared->Prop} (hk:calm c=true) (h:aK M (A.under c) (M.den c) (fun fin s'=>match fin with | .done f=>R (.ok f) s' | .again c'=>c'.quiet=true/\b8 M A c' R s') (fun e s'=>R (.error e) s') s):b8 M A c R s:=fun Γ p e a k=>by
 rw[wpCode_iff_wp,e]
 refine Sem.wp_mono M Γ _ (fun fin p' s' h'=>?_) (fun O O O h'=>h') p s (h Γ p (e ▸ a.in) ⟨by rw[e];exact hk,k⟩)
 cases fin with
 | done f=>exact h'
 | again c'=>exact⟨h'.1,h'.2 (Γ.goto c') p' rfl (a.goto c') k⟩
theorem Bm {c:Code}{R:Result->Shared->Prop} (hk:calm c=true) (hq:c.quiet=true) (I:Nat->Shared->Prop)
  (turn:∀ n s,I n s->aK M (A.under c) (M.den c) (fun fin s'=>match fin with | .done f=>R (.ok f) s' | .again c'=>(c'=c/\∃ m,m<n/\I m s')∨(c'.quiet=true/\b8 M A c' R s')) (fun e s'=>R (.error e) s') s)
  (n:Nat) (h:I n s):b8 M A c R s:=by
 induction n using Nat.strongRecOn generalizing s with
 | ind n ih=>
  refine jt hk (jr (turn n s h) (fun fin s' hf=>?_) fun O O h'=>h')
  cases fin with
  | done f=>exact hf
  | again c'=>
   rcases hf with ⟨rfl,m,hm,hI⟩ | hf
   ·exact⟨hq,ih m hm hI⟩
   ·exact hf
theorem mA {c:Code}{h:Option Value}{env:Env}{Q:Flow->Shared->Prop} (hc:b8 M (A.mark h) c (fun r s'=>match r with | .ok f=>Q f s' | .error e=>cameBackBy M A env E e s') s) (RB:h≠some byPass:=by intro x;contradiction):aK M A (runOwn c env h) Q E s:=by
 exact jW (Qf hc RB)
theorem p7 {env:Env}{m:Sem α}{Q:α->Shared->Prop} (h:aK M A m Q (notedBy M A env E) s):aK M A (m.onRaise fun x=>do noteFrame x env;theTreesLotGoes x) Q E s:=
 jW (jr h (fun O O q=>q) fun O O hx=>wpAny_bind (wpAny_mono hx (fun O O e=>wpAny_theTreesLotGoes e) fun O O e=>e))
theorem Hi {env:Env}{m:Sem α}{pos:Pos}{Q:α->Shared->Prop} (h:aK M A m Q (notedBy M A env E) s):aK M A (m.onRaise fun x=>do noteFrame x env;standAt pos) Q E s:=
 jW (jr h (fun O O q=>q) fun O O hx=>wpAny_bind (wpAny_mono hx (fun O O e=>wpAny_standAt e) fun O O e=>e))
noncomputable def yu (a:Addr) (x:Code × Pos):Bool:=match x with
  | (.builtin "bytearray.__contains__" ⟨v::_,_⟩,_) | (.builtin "bytearray.__mod__" ⟨v::_,_⟩,_)
  | (.builtin "bytearray.__rmod__" ⟨_::v::_,_⟩,_) | (.builtin "_struct.pack_into.held" ⟨v::_,_⟩,_)=>Builtin.Bytes.sameRef v (.ref a)
  | (.builtin "bytearray.find.held" ⟨_::_::held,_⟩,_)=>held.any (Builtin.Bytes.sameRef (.ref a))
  | (.builtin id ⟨v::_,_⟩,_)=>Builtin.Bytes.sameRef v (.ref a)&&Builtin.Bytes.decodersThatHold.contains id
  | _=>false
theorem eS {c:Prop} [Decidable c] {x:c->Bool}{y:¬c->Bool} (h1:∀ h,x h=false) (h2:∀ h,y h=false):dite c x y=false:=by
 by_cases h:c
 ·rw[dif_pos h];exact h1 h
 ·rw[dif_neg h];exact h2 h
theorem away {a:Addr}{v:Value} (h:¬ v.onHeap=true):Builtin.Bytes.sameRef v (.ref a)=false/\Builtin.Bytes.sameRef (.ref a) v=false:=by
 cases v<;>first | exact⟨rfl,rfl⟩ | exact absurd rfl h
theorem Bn {b c:Bool} (h:c=true->b=false):(b&&c)=false:=by
 cases c with
 | true=>rw[h rfl];rfl
 | false=>exact Bool.and_false b
theorem eV {a:Addr}{id:String}{vs:List Value}{kw:List (PySem.Str × Value)} (hx:calm (.builtin id ⟨vs,kw⟩)=true) (hl:loud.contains id=true) {v:Value} (hv:v∈vs):Builtin.Bytes.sameRef v (.ref a)=false/\Builtin.Bytes.sameRef (.ref a) v=false:=by
 have:vs.any Value.onHeap=false:=by
  have h:(!loud.contains id||!vs.any Value.onHeap)=true:=hx
  rw[hl] at h
  exact (Bool.not_eq_true' _).mp h
 exact away (List.any_eq_false.mp this v hv)
theorem rJ {id:String} (q:Builtin.Bytes.decodersThatHold.contains id=true):loud.contains id=true:=by
 rw[List.contains_iff_mem] at q ⊢
 exact List.mem_append_right _ q
theorem Ol {a:Addr}{id:String}{vs:List Value}{kw:List (PySem.Str × Value)}{p:Pos} (hx:calm (.builtin id ⟨vs,kw⟩)=true):yu a (.builtin id ⟨vs,kw⟩,p)=false:=by
 cases vs with
 | nil=>
  unfold yu
  delta yu.match_1
  refine eS (fun h=>?_) fun O=>eS (fun h=>?_) fun O=>eS (fun h=>?_) fun O=>eS (fun h=>?_) fun O=>eS (fun h=>?_) fun O=>rfl
  all_goals subst h;rfl
 | cons v r=>
  unfold yu
  delta yu.match_1
  refine eS (fun h=>?_) fun O=>eS (fun h=>?_) fun O=>eS (fun h=>?_) fun O=>eS (fun h=>?_) fun O=>eS (fun h=>?_) fun O=>Bn fun q=>(eV hx (rJ q) (.head _)).1
  ·subst h;exact (eV hx (by decide +kernel) (.head _)).1
  ·subst h;exact (eV hx (by decide +kernel) (.head _)).1
  ·subst h
   cases r with
   | nil=>exact Bn fun q=>(eV hx (rJ q) (.head _)).1
   | cons u r=>exact (eV hx (by decide +kernel) (.tail _ (.head _))).1
  ·subst h;exact (eV hx (by decide +kernel) (.head _)).1
  ·subst h
   cases r with
   | nil=>exact Bn fun q=>(eV hx (rJ q) (.head _)).1
   | cons u r=>exact List.any_eq_false.mpr fun z hz=>ne_true_of_eq_false (eV hx (by decide +kernel) (.tail _ (.tail _ hz))).2
theorem Bo {a:Addr}{Q:Bool->Shared->Prop} (h:Q false s):aK M A (Builtin.Bytes.exported (.ref a)) Q E s:=fun Γ p O c=>by
 have key:∀ x:Code × Pos,calm x.1=true->yu a x=false:=fun x hx=>by
  obtain⟨c,p⟩:=x
  cases c<;>try rfl
  exact Ol hx
 have e:((Γ.code,p)::Γ.below).any (yu a)=false:=List.any_eq_false.mpr fun x hx=>ne_true_of_eq_false (key x (by
  rcases List.mem_cons.mp hx with q | q
  ·rw[q];exact c.1
  ·exact c.2 x q))
 show Q (((Γ.code,p)::Γ.below).any (yu a)) s
 rw[e]
 exact h
end
open Sem (wp)
section
variable {M:Model}{A:Around}{E:Value->Shared->Prop}{s:Shared}{env:Env}
theorem jX {vs:List Value}{m:Sem Value}{Q:Value->Shared->Prop} (h:aK M A m Q E s):aK M A (operate vs m) Q E s:=fun Γ p a c=>by rw[Sem.wp_operate];exact h Γ p a c
theorem Om {l op r pos}{Q:Value->Shared->Prop} (h:aK M A (eval l env) (fun a s₁=>aK M A (eval r env) (fun b a0=>aK M A (binaryOp op a b) Q E a0) E s₁) E s):aK M A (eval (.BinOp l op r pos) env) Q E s:=by
 exact aw h fun a s₁ ai=>aw (az ai) fun b a0 aD=>au (jX aD)
theorem Bp {l op r pos}{Q:Value->Shared->Prop} (h:aK M A (eval l env) (fun a s₁=>aK M A (eval r env) (fun b a0=>aK M A (compareOp op a b) Q E a0) E s₁) E s) (hm:behindInMarks op r=false) :
  aK M A (eval (.Compare l [op] [r] pos) env) Q E s:=by
 rw[eval_Compare1,markedBehindIn_of_false hm]
 exact aw h fun a s₁ ai=>aw (az ai) fun b a0 aD=>au (jX aD)
theorem mB {l op r pos whole}{Q:Bool->Shared->Prop} (h:aK M A (eval l env) (fun a s₁=>aK M A (eval r env) (fun b a0=>aK M A (compareOp op a b) (fun c dG=>aK M A (truthy c) Q E dG) E a0) E s₁) E s) (hm:behindInMarks op r=false) :
  aK M A (isTrue (.Compare l [op] [r] pos) env whole) Q E s:=by
 rw[isTrue_Compare1,markedBehindIn_of_false hm]
 exact aw h fun a s₁ ai=>aw (az ai) fun b a0 aD=>au (aw (jX aD) fun c dG bE=>az bE)
theorem Hj {op x pos}{Q:Value->Shared->Prop} (h:aK M A (eval x env) (fun v s₁=>aK M A (unaryOp op v) Q E s₁) E s):aK M A (eval (.UnaryOp op x pos) env) Q E s:=
 aw (f:=fun v=>do standAt pos;holding [v] (unaryOp op v)) h fun v s₁ ai=>au (az ai)
theorem RD {x y:Expr}{pos:Pos}{Q:Value->Shared->Prop} (h:aK M A (eval x env) (fun v s₁=>aK M A (truthy v) (fun t a0=>if t then aK M A (eval y env) Q E a0 else Q v a0) E s₁) E s) :
  aK M A (eval (.BoolOp .And [x,y] pos) env) Q E s:=
 aw (m:=eval x env) h fun v s₁ ai=>au (aw (az ai) fun t a0 aD=>by
  cases t
  ·exact aF aD
  ·exact aD)
theorem Ui {x y:Expr}{pos:Pos}{Q:Value->Shared->Prop} (h:aK M A (eval x env) (fun v s₁=>aK M A (truthy v) (fun t a0=>if t then Q v a0 else aK M A (eval y env) Q E a0) E s₁) E s) :
  aK M A (eval (.BoolOp .Or [x,y] pos) env) Q E s:=
 aw (m:=eval x env) h fun v s₁ ai=>au (aw (az ai) fun t a0 aD=>by
  cases t
  ·exact aD
  ·exact aF aD)
theorem wa {x:Expr}{pos:Pos}{whole:Sem Value}{Q:Bool->Shared->Prop} (h:aK M A (isTrue x env (eval x env)) (fun b s₁=>Q (!b) s₁) E s):aK M A (isTrue (.UnaryOp .Not x pos) env whole) Q E s:=by
 rw[arm_isTrue_UnaryOp]
 exact aw h fun b s₁ ai=>aF ai
theorem rK {e:Expr}{whole:Sem Value}{Q:Bool->Shared->Prop} (h:aK M A whole (fun v s₁=>aK M A (truthy v) Q E s₁) E s) (he:isTrue e env whole=(do let v <- whole;standAt e.pos;holding [v] (truthy v))):aK M A (isTrue e env whole) Q E s:=by
 rw[he]
 exact aw h fun v s₁ ai=>au (az ai)
theorem pI {op:BoolOp}{values:List Expr}{pos:Pos}{whole:Sem Value}{Q:Bool->Shared->Prop} (h:aK M A (allTrue op values env) Q E s):aK M A (isTrue (.BoolOp op values pos) env whole) Q E s:=by
 rw[arm_isTrue_BoolOp];exact h
theorem kB {x:Expr}{rest:List Expr}{Q:Bool->Shared->Prop} (h:aK M A (isTrue x env (eval x env)) (fun b s₁=>if b then aK M A (allTrue .And rest env) Q E s₁ else Q false s₁) E s):aK M A (allTrue .And (x::rest) env) Q E s:=
 aw (m:=isTrue x env (eval x env)) h fun b s₁ ai=>by
  cases b
  ·exact aF ai
  ·exact ai
theorem mD {x:Expr}{rest:List Expr}{Q:Bool->Shared->Prop} (h:aK M A (isTrue x env (eval x env)) (fun b s₁=>if b then Q true s₁ else aK M A (allTrue .Or rest env) Q E s₁) E s):aK M A (allTrue .Or (x::rest) env) Q E s:=
 aw (m:=isTrue x env (eval x env)) h fun b s₁ ai=>by
  cases b
  ·exact ai
  ·exact aF ai
theorem cR {x:Sem Value}{rest:List (Bool × Sem Value)}{Q:List Value->Shared->Prop} (h:aK M A x (fun v s₁=>aK M A (spliced rest) (fun vs a0=>Q (v::vs) a0) E s₁) E s):aK M A (spliced ((false,x)::rest)) Q E s:=by
 refine aw h fun v s₁ ai=>?_
 rw[if_neg Bool.false_ne_true]
 exact eU rfl (aw (az ai) fun vs a0 aD=>aF aD)
theorem Oo {elts:List Expr}{k:Nat}{pos:Pos}{Q:Value->Shared->Prop} (h:aK M A (spliced (backTo pos (starEach elts env))) (fun vs s₁=>aK M A (newTuple vs) Q E s₁) E s):aK M A (eval (.Tuple elts k pos) env) Q E s:=by
 rw[arm_eval_Tuple]
 exact au (aI h)
theorem RG {elts:List Expr}{pos:Pos}{Q:Value->Shared->Prop} (h:aK M A (spliced (backTo pos (starEach elts env))) (fun vs s₁=>aK M A (newList vs) Q E s₁) E s):aK M A (eval (.List elts pos) env) Q E s:=by
 rw[arm_eval_List]
 exact au (aI h)
theorem oZ {value slice pos}{Q:Value->Shared->Prop} (h:aK M A (eval value env) (fun o s₁=>aK M A (eval slice env) (fun i a0=>aK M A (subscriptTail value slice o i) Q E a0) E s₁) E s):aK M A (eval (.Subscript value slice pos) env) Q E s:=by
 exact aw h fun o s₁ ai=>aw (az ai) fun i a0 aD=>au aD
theorem Oq {lower upper:Option Expr}{p:Pos}{Q:Value->Shared->Prop} (h:aK M A (evalPart lower env) (fun l s₁=>aK M A (evalPart upper env) (fun u a0=>Q (.ref a0.heap.objs.size) { a0 with heap:=a0.heap.push { cls:=.type "slice",data:=.fields #[l,u,.none] } }) E s₁) E s) :
  aK M A (eval (.Slice lower upper none p) env) Q E s:=by
 rw[arm_eval_Slice]
 refine aw (m:=valueOrNone (evalOpt lower env)) h fun l s₁ ai=>aw (az (m:=valueOrNone (evalOpt upper env)) ai) fun u a0 aD=>?_
 exact aI (az (aF (wpAny_newObj_type aD).g))
theorem dz {id:PySem.Str}{p pos:Pos}{args:List Expr}{keywords:List Keyword}{Q:Value->Shared->Prop}
  (h:aK M A (eval (.Name id p) env) (fun f s₁=>aK M A (callWith pos f [] (backTo pos (starEach args env)) (backToKw pos (keywordEach keywords env))) Q E s₁) E s):aK M A (eval (.Call (.Name id p) args keywords pos) env) Q E s:=by
 rw[arm_eval_Call_Name']
 exact aI h
theorem c5 {f:Value}{x:Sem Value}{rest:List (Bool × Sem Value)}{Q:Args->Shared->Prop} (h:aK M A (spliced ((false,x)::rest)) (fun vs s'=>Q ⟨vs,[]⟩ s') E s):aK M A (evalArgs f true ((false,x)::rest) []) Q E s:=by
 refine aw (m:=spliced ((false,x)::rest)) h fun vs s' h'=>az ?_
 exact eU rfl (eU rfl (aF h'))
theorem yv {f:Value}{Q:Args->Shared->Prop} (h:Q ⟨[],[]⟩ s):aK M A (evalArgs f true [] []) Q E s:=(PySem.evalArgs_none h).g
theorem wc {t:Sem Value}{Q:Value->Shared->Prop} (h:aK M A t Q E s):aK M A (do let r <- t;holding [r] point;pure r) Q E s:=aw h fun r a0 hr=>aI (az (wpAny_point (show aK M A (pure r) Q E a0 from aF hr)).g)
theorem cn {pos:Pos}{id:String}{first:List Value}{args:List (Bool × Sem Value)}{Q:Value->Shared->Prop} (rL:args.any (·.1)=false) (h:aK M A (evalArgs (.builtin id) true args []) (fun a s₁=>aK M A (call (.builtin id) (first++a.pos) a.kw) Q E s₁) E s) :
  aK M A (callWith pos (.builtin id) first args []) Q E s:=by
 refine aw (az h) fun a s₁ ai=>au ?_
 rw[rL]
 exact eU rfl (wc ai)
theorem dP {pos:Pos}{T:String}{first:List Value}{args:List (Bool × Sem Value)}{Q:Value->Shared->Prop} (rL:args.any (·.1)=false) (h:aK M A (evalArgs (.type T) true args []) (fun a s₁=>aK M A (call (.type T) (first++a.pos) a.kw) Q E s₁) E s) :
  aK M A (callWith pos (.type T) first args []) Q E s:=by
 refine aw (az h) fun a s₁ ai=>au ?_
 rw[rL]
 exact eU rfl (wc ai)
theorem RH {α:Type}{vs:List Value}{m:Sem α}{Q:α->Shared->Prop} (h:aK M A m Q E s):aK M A (m.keep vs) Q E s:=fun Γ p a c=>by rw[Sem.wp_keep];exact h Γ p a c
theorem yw {a:Addr}{o:Obj}{fd:FuncData}{Q:Keeper->Shared->Prop} (ho:s.heap.get? a=some o) (hd:o.data=.func fd) (h:Q .frame s):wpAny M A (keeperOf (.ref a)) Q E s:=by
 refine wpAny_bind (wpAny_load ho ?_)
 rw[hd]
 exact wpAny_pure h
theorem Uj {c:Prop} [Decidable c] {t e:Sem Value}{Q:Value->Shared->Prop} (h:aK M A t Q E s) (k:aK M A e Q E s):aK M A (if c then t else e) Q E s:=by
 by_cases q:c
 ·rw[if_pos q];exact h
 ·rw[if_neg q];exact k
theorem j6 {pos:Pos}{a:Addr}{o:Obj}{fd:FuncData}{first:List Value}{args:List (Bool × Sem Value)}{Q:Value->Shared->Prop} (rL:args.any (·.1)=false)
  (h:aK M A (evalArgs (.ref a) true args []) (fun x s₁=>(s₁.heap.get? a=some o/\o.data=.func fd)/\aK M A (call (.ref a) (first++x.pos) x.kw) Q E s₁) E s):aK M A (callWith pos (.ref a) first args []) Q E s:=by
 refine aw (az h) fun x s₁ ai=>au ?_
 rw[rL]
 refine aI (yw ai.1.1 ai.1.2 ?_).g
 show aK M A (if args.length+2*0 > 30 then (do let r <- call (.ref a) (first++x.pos) x.kw;holding [r] point;pure r) else (do let r <- callMarked plainCall (.ref a) (first++x.pos) x.kw;holding [r] point;pure r)) Q E s₁
 exact Uj (wc ai.2) (wc (RH ai.2))
end
open Sem (wp)
section
variable {M:Model}{A:Around}{E:Value->Shared->Prop}{s:Shared}{env:Env}
theorem gy {o:Expr}{name:PySem.Str}{apos pos:Pos}{args:List Expr}{Q:Value->Shared->Prop} (Kk:attributeBase o name env (eval o env)=eval o env)
  (RJ:((backTo pos (starEach args env)).all (fun x=>!x.1)&&(backToKw pos (keywordEach [] env)).all (fun x=>x.1.isSome)&&decide (args.length+([]:List Keyword).length+(if ([]:List Keyword).isEmpty then 0 else 1)<30))=true)
  (hline:(apos.endLine == pos.line)=true)
  (h:aK M A (eval o env) (fun ov s₁=>∃ (T id:String),PlainAttrs T/\Slot T name id/\typeOf (.builtin id)=pure (.type "method_descriptor")/\s₁.TypeIs ov T/\
   (∀ a,ov=.ref a->∃ ob,s₁.heap.get? a=some ob/\ob.dict=none)/\aK M A (callWith pos (.builtin id) [ov] (backTo pos (starEach args env)) []) Q E s₁) E s) :
  aK M A (eval (.Call (.Attribute o name apos) args [] pos) env) Q E s:=by
 rw[arm_eval_Call,Kk]
 refine aw h fun ov s₁ ⟨T,id,pa,slot,Zx,hT,hd,hc⟩=>au ?_
 have Uk:methodCallForm (args.length+([]:List Keyword).length) (backTo pos (starEach args env)) (backToKw pos (keywordEach [] env))=true:=RJ
 have WO:methodCallPos true o env apos pos=pure pos:=by unfold methodCallPos;simp[hline]
 unfold methodCall
 rw[Uk]
 refine aI (az (getMethod_builtin hT pa slot Zx hd ?_).g)
 exact eU WO hc
theorem wd {st rest}{Q:Flow->Shared->Prop} (h:aK M A (exec st env) (fun f s'=>match f with | .next=>aK M A (execs rest env) Q E s' | f=>Q f s') E s):aK M A (execs (st::rest) env) Q E s:=by
 rw[execs_cons]
 refine aw h fun f s' h'=>?_
 cases f<;>first | exact h' | exact aF h'
theorem rM {x:PySem.Str}{v:Value}{Q:Unit->Shared->Prop} (h:wpAny M A (storeName env x v) Q E s):aK M A (bindName env x v) Q E s:=fun Γ p a O=>by
 rw[Sem.wp_bindName];exact h Γ p a
theorem gA {x pos' value pos}{Q:Flow->Shared->Prop} (h:aK M A (eval value env) (fun v s₁=>wpAny M A (storeName env x v) (fun O=>Q .next) E s₁) E s) (hs:swapsWith value (some (.Name x pos')) pos.line env=pure false) :
  aK M A (exec (.Assign [.Name x pos'] value pos) env) Q E s:=by
 rw[exec_Assign_Name env x pos' value pos hs]
 exact au (aw h fun v s₁ ai=>au (aw (rM ai) fun O a0 aD=>aF aD))
theorem Hk {l k:List Value}{Q:Unit->Shared->Prop} (h:Q () s):aK M A (release l k) Q E s:=fun Γ p a O=>by rw[Sem.wp_release];exact h
theorem lu {o i pos' value pos}{Q:Flow->Shared->Prop} (h:aK M A (eval value env) (fun v s₁=>aK M A (eval o env) (fun ov a0=>aK M A (eval i env) (fun iv dG=>wpAny M A (setItem ov iv v) (fun O=>Q .next) E dG) E a0) E s₁) E s)
  (hs:swapsWith value (some (.Subscript o i pos')) pos.line env=pure false):aK M A (exec (.Assign [.Subscript o i pos'] value pos) env) Q E s:=by
 rw[exec_Assign_Subscript o i pos' value pos hs]
 refine au (aw h fun v s₁ ai=>?_)
 rw[assign_Subscript]
 refine aI (aw (az ai) fun ov a0 aD=>aw (az aD) fun iv dG bE=>au (aw (az bE.g) fun O Bq cU=>Hk (aF cU)))
theorem nZ {x pos' op value pos}{Q:Flow->Shared->Prop} (h:wpAny M A (loadName env x) (fun old s₁=>aK M A (eval value env) (fun v a0=>wpAny M A (inplaceOp op old v) (fun r dG=>wpAny M A (storeName env x r) (fun O=>Q .next) E dG) E a0) E s₁) E s) :
  aK M A (exec (.AugAssign (.Name x pos') op value pos) env) Q E s:=by
 rw[exec_AugAssign_Name]
 exact au (aw h.g fun old s₁ ai=>aw (az ai) fun v a0 aD=>au (aw (jX aD.g) fun r dG bE=>au (aw (rM bE) fun O Bq cU=>aF cU)))
theorem Kl {e pos}{Q:Flow->Shared->Prop} (h:aK M A (eval e env) (fun v=>Q (.ret v)) E s):aK M A (exec (.Return (some e) pos) env) Q E s:=by
 rw[exec_Return_some]
 exact au (aw h fun v s₁ ai=>aF ai)
theorem WQ {test body orelse pos}{Q:Flow->Shared->Prop} (h:aK M A (isTrue test env (eval test env)) (fun b a0=>if b then aK M A (execs body env) Q E a0 else aK M A (execs orelse env) Q E a0) E s):aK M A (exec (.If test body orelse pos) env) Q E s:=by
 rw[exec_If]
 refine au (aw h fun b a0 aD=>?_)
 cases b
 ·exact aD
 ·exact aD
theorem Ot {test body orelse pos}{Q:Flow->Shared->Prop} (h:b8 M A (.whileLoop test body orelse env) (fun r s'=>match r with | .ok f=>Q f s' | .error e=>cameBackBy M A env E e s') s):aK M A (exec (.While test body orelse pos) env) Q E s:=by
 rw[exec_While]
 exact au (mA h)
theorem Ul {target iter body orelse pos}{Q:Flow->Shared->Prop} (h:aK M A (eval iter env) (fun x s₁=>wpAny M A (pyIter x) (fun it a0=>b8 M A (.forLoop target it body orelse env) (fun r s'=>match r with | .ok f=>Q f s' | .error e=>cameBackBy M A env E e s') a0) E s₁) E s)
  (hs:∀ x,foldedSetIterable iter env x=pure x):aK M A (exec (.For target iter body orelse pos) env) Q E s:=by
 rw[exec_For]
 exact au (aw h fun x s₁ ai=>eU (hs x) (au (aw (az ai.g) fun it a0 aD=>mA aD)))
theorem Hl {body orelse:Sem Flow}{h₀:ExceptHandler}{hs:List ExceptHandler}{Q:Flow->Shared->Prop}
  (h:aK M A body (fun f s₁=>match f with | .next=>aK M A orelse Q E s₁ | f=>Q f s₁) (fun e s₁=>wpAny M A (noteFrame e env) (fun O a0=>wpAny M A (setFlight e none) (fun O dG=>aK M A (handleBy e env (h₀::hs)) Q E dG) E a0) E s₁) s) :
  aK M A (tryStmt false body (h₀::hs) orelse [] env) Q E s:=by
 refine aI (m:=body.attempt) (uF (jr h (fun f s₁ ai=>?_) fun e s₁ ai=>?_))
 ·cases f<;>first | exact ai | exact aF ai
 ·exact aw ai.g fun O a0 aD=>aI aD.g
theorem Um {body orelse:List Stmt}{h₀:ExceptHandler}{hs:List ExceptHandler}{pos:Pos}{Q:Flow->Shared->Prop}
  (h:aK M A (execs body env) (fun f s₁=>match f with | .next=>aK M A (execs orelse env) Q E s₁ | f=>Q f s₁) (fun e s₁=>wpAny M A (noteFrame e env) (fun O a0=>wpAny M A (setFlight e none) (fun O dG=>aK M A (handleBy e env (h₀::hs)) Q E dG) E a0) E s₁) s) :
  aK M A (exec (.Try body (h₀::hs) orelse [] pos) env) Q E s:=by
 rw[arm_exec_Try]
 exact au (Hl h)
theorem Br {e:Value}{t:Expr}{body:List Stmt}{pos:Pos}{rest:List ExceptHandler}{Q:Flow->Shared->Prop}
  (h:b8 M (A.mark (some e)) (.handlers e [.ExceptHandler (some t) none [] pos] env) (fun r s₁=>match r with
   | .ok .brk=>b8 M (A.mark (some e)) (.handlers e [.ExceptHandler none none body pos] env) (fun r a0=>match r with | .ok f=>Q f a0 | .error x=>cameBackBy M A env E x a0) s₁
   | .ok _=>aK M A (handleBy e env rest) Q E s₁
   | .error x=>cameBackBy M A env E x s₁) s) (RB:e≠byPass):aK M A (handleBy e env (.ExceptHandler (some t) none body pos::rest)) Q E s:=by
 rw[handleBy]
 have Un:(some e:Option Value)≠some byPass:=fun x=>RB (Option.some.inj x)
 refine aI (az (mA (v9 h fun r s₁ ai=>?_) Un))
 cases r with
 | error x=>exact ai
 | ok f=>
  cases f with
  | brk=>
   refine eU rfl ?_
   show aK M A (if (!true)=true then _ else _) Q E s₁
   rw[if_neg (by decide)]
   exact aI (az (mA (v9 ai fun r a0 aD=>by
    cases r with
    | error x=>exact aD
    | ok f=>exact aF aD) Un))
  | _=>
   refine eU rfl ?_
   show aK M A (if (!false)=true then _ else _) Q E s₁
   rw[if_pos (by decide)]
   exact ai
end
section
variable {prog:Program}{w:World}{A:Around}{E:Value->Shared->Prop}{R:Result->Shared->Prop}{s:Shared}{env:Env}
theorem Bs {e pos}{Q:Flow->Shared->Prop} (h:aK (model prog w) A (eval e env) (fun O=>Q .next) E s) (hi:interactive env=false) (hs:swapsWith e none pos.line env=pure false):aK (model prog w) A (exec (.Expr e pos) env) Q E s:=by
 rw[exec_Expr env e pos hi hs]
 exact au (aw h fun v s' h'=>(wpAny_dropValue h').g)
theorem Ou {e:Value}{Hm:Stmt}{body:List Stmt}{pos:Pos} (h:wpAny (model prog w) A (setFlight e none) (fun O s₁=>aK (model prog w) A (execs (Hm::body) env) (fun f a0=>R (.ok f) a0) (notedBy (model prog w) A env fun x a0=>R (.error x) a0) s₁) (notedBy (model prog w) A env fun x s₁=>R (.error x) s₁) s) :
  b8 (model prog w) A (.handlers e [.ExceptHandler none none (Hm::body) pos] env) R s:=by
 refine jt rfl ?_
 show aK _ A (do return Fin.done (<- (handleWith e env [.ExceptHandler none none (Hm::body) pos]).onRaise (fun x=>do noteFrame x env;theTreesLotGoes x))) _ _ s
 refine aI (p7 ?_)
 exact au (aw h.g fun O s₁ ai=>jr ai (fun f a0 aD=>aF aD) fun O O x=>x)
theorem yx {test body} (I:Nat->Shared->Prop)
  (turn:∀ n s,I n s->aK (model prog w) A (isTrue test env (eval test env)) (fun b a0=>
    if b then aK (model prog w) A (execs body env) (fun f dG=>match f with | .next | .cont=>∃ m,m<n/\I m dG | .brk=>R (.ok .next) dG | .ret v=>R (.ok (.ret v)) dG) (notedBy (model prog w) A env fun e s'=>R (.error e) s') a0
    else R (.ok .next) a0) (notedBy (model prog w) A env fun e s'=>R (.error e) s') s)
  (n:Nat) (h:I n s):b8 (model prog w) A (.whileLoop test body [] env) R s:=by
 refine Bm rfl rfl I (fun n s hI=>?_) n h
 show aK _ A ((whileTurn test body [] env).onRaise (fun x=>do noteFrame x env;theTreesLotGoes x)) _ _ s
 refine p7 ?_
 delta whileTurn
 refine aw (turn n s hI) fun b a0 aD=>?_
 cases b with
 | false=>
  rw[if_neg Bool.false_ne_true] at aD ⊢
  refine aI (wpAny_execs_nil ?_).g
  exact aF aD
 | true=>
  rw[if_pos rfl] at aD ⊢
  refine aw aD fun f dG bE=>?_
  cases f with
  | next=>exact aF (.inl ⟨rfl,bE⟩)
  | cont=>exact aF (.inl ⟨rfl,bE⟩)
  | brk=>exact aF bE
  | ret v=>exact aF bE
theorem Hn {target it body} (I:Nat->Shared->Prop)
  (turn:∀ n s,I n s->wpAny (model prog w) A (pyNext it) (fun r s₁=>match r with
   | none=>R (.ok .next) s₁
   | some v=>wpAny (model prog w) A (assign target env v) (fun O a0=>aK (model prog w) A (execs body env) (fun f dG=>match f with | .next | .cont=>∃ m,m<n/\I m dG | .brk=>R (.ok .next) dG | .ret v=>R (.ok (.ret v)) dG)
     (notedBy (model prog w) A env fun e s'=>R (.error e) s') a0) (notedBy (model prog w) A env fun e s'=>R (.error e) s') s₁) (notedBy (model prog w) A env fun e s'=>R (.error e) s') s)
  (n:Nat) (h:I n s) (ht:∀ v,letOwnedTupleGo target it v=pure ():=by intro _;rfl):b8 (model prog w) A (.forLoop target it body [] env) R s:=by
 refine Bm rfl rfl I (fun n s hI=>?_) n h
 show aK _ _ ((forTurn target it body [] env).onRaise (fun x=>do noteFrame x env;theTreesLotGoes x)) _ _ s
 refine p7 ?_
 delta forTurn
 refine au (aI (wpAny_onRaise (wpAny_mono (turn n s hI) (fun r s₁ ai=>?_) fun O O h'=>wpAny_standAt h')).g)
 cases r with
 | none=>exact aF (.inr ⟨rfl,(codeAny_block (wpAny_execs_nil ai)).g⟩)
 | some v=>
  refine eU (ht v) (aw ai.g fun O a0 aD=>aw aD fun f dG bE=>?_)
  cases f with
  | next=>exact aF (.inl ⟨rfl,bE⟩)
  | cont=>exact aF (.inl ⟨rfl,bE⟩)
  | brk=>exact aF bE
  | ret v=>exact aF bE
theorem Km {body} (h:aK (model prog w) (A.deeper env) (execs body env) (fun f s'=>R (.ok (.ret (match f with | .ret v=>v | _=>.none))) s')
   (fun e s'=>wpAny (model prog w) (A.deeper env) (leaving env e) (fun O v8=>R (.error e) v8) (fun e' v8=>R (.error e') v8) s') s):b8 (model prog w) A (.func body env) R s:=by
 refine jt rfl ?_
 show aK _ (A.deeper env) (do point;match <- (execs body env).onRaise (leaving env) with | .ret v=>ret v | _=>ret .none) _ _ s
 refine aI (wpAny_point ?_).g
 refine aI (jW (jr h (fun f s' h'=>?_) fun O O h'=>h'))
 cases f<;>exact aF h'
theorem iO {a:Addr}{args:Args}{o:Obj}{fd:FuncData}{body:List Stmt} (yy:A.depth<recursionLimit) (ho:s.heap.get? a=some o) (kx:o.data=.func fd) (Uo:fd.scope.isCoroutine=false) (Kn:fd.scope.isGenerator=false)
  (yz:fd.body=.stmts body) (Ra:s.heap.CodeRec fd.code fd.qualname)
  (h:wpAny (model prog w) A.in1 (bindArgs fd args) (fun binds s₁=>wpAny (model prog w) A.in1 (newFunctionEnv fd.scope fd.globals fd.closure binds (fd.qualname++".<locals>.") (some a) fd.code none fd.builtins)
    (fun env a0=>a0.heap.NoLimit/\b8 (model prog w) A (.func body env) R a0) (fun e s'=>R (.error e) s') s₁) (fun e s'=>R (.error e) s') s):b8 (model prog w) A (.call (.ref a) args) R s:=by
 refine jt rfl ?_
 show aK _ A.in1 (callAny (.ref a) args) _ _ s
 refine aI (wpAny_load ho ?_).g
 refine kK Ra fun c oc vs tq zz=>iV zz fun hc X9 VS hq=>?_
 rw[kx]
 show aK _ A.in1 (callFunction a fd args) _ _ s
 rw[hc] at h
 delta callFunction
 rw[Uo,Kn,yz,hc]
 refine aI (m:=field (.ref c) 1) (wpAny_field X9 VS hq (eU rfl ?_)).g
 exact aw h.g fun binds s₁ ai=>aw ai.g fun env a0 aD=>aI (wpAny_enterFrame (A:=A.in1) aD.1 yy (aF (And.intro rfl aD.2))).g
theorem Bt {a:Addr}{o:Obj}{fd:FuncData}{body:List Stmt}{args:Args}{binds:List (PySem.Str × Value)} (yy:A.depth<recursionLimit) (ho:s.heap.get? a=some o) (Ko:o.data=.func fd) (j3:s.heap.NoLimit) (Ra:s.heap.CodeRec fd.code fd.qualname)
  (yz:fd.body=.stmts body) (mE:BindsTo s fd args binds) (du:∀ x∈fd.scope.names,x.2≠.cell) (pJ:∀ x∈binds,fd.scope.names.lookup x.1=some .local)
  (h:∀ h₀,h₀.Ns s.heap.objs.size (fun x=>binds.reverse.lookup x)->(∀ b o,s.heap.get? b=some o->h₀.get? b=some o)->
   aK (model prog w) (A.deeper (callEnv fd s.heap.objs.size a)) (execs body (callEnv fd s.heap.objs.size a)) (fun f s'=>R (.ok (.ret (match f with | .ret v=>v | _=>.none))) s')
    (fun e s'=>wpAny (model prog w) (A.deeper (callEnv fd s.heap.objs.size a)) (leaving (callEnv fd s.heap.objs.size a) e) (fun O v8=>R (.error e) v8) (fun e' v8=>R (.error e') v8) s') { s with heap:=h₀,toks:=s.toks+binds.length })
  (Uo:fd.scope.isCoroutine=false) (Kn:fd.scope.isGenerator=false) (hk:fd.scope.kind=.function):b8 (model prog w) A (.call (.ref a) args) R s:=by
 refine iO yy ho Ko Uo Kn yz Ra (mE _ _ _ _ ?_)
 refine wpAny_newFunctionEnv du pJ (fun h₀ RK Kp=>⟨j3.fresh _ Kp,Km (h h₀ RK fun b o e=>?_)⟩) hk
 exact Kp.extBut b o (Nat.ne_of_lt (Heap.lt_size e)) (Heap.get?_push_of_some _ e)
theorem mF {a:Addr}{o:Obj}{fd:FuncData}{body:List Stmt}{vals:List Value}{binds:List (PySem.Str × Value)} (yy:A.depth<recursionLimit) (ho:s.heap.get? a=some o) (Ko:o.data=.func fd) (j3:s.heap.NoLimit) (Ra:s.heap.CodeRec fd.code fd.qualname)
  (yz:fd.body=.stmts body) (mE:bindArgs fd ⟨vals,[]⟩=pure binds) (WR:fd.closure=[])
  (d9:∀ x∈binds,fd.scope.names.lookup x.1=some .local∨(fd.scope.names.lookup x.1=some .cell/\((cellsFrom (s.heap.objs.size+1) fd.scope.names []).lookup x.1).isSome=true))
  (h:∀ s₁,InCallC s (callEnvC fd s.heap.objs.size a).locals (bindL (callEnvC fd s.heap.objs.size a).kindOf binds fun O=>none) (callEnvC fd s.heap.objs.size a).cells (bindC (callEnvC fd s.heap.objs.size a).kindOf binds fun O=>none) s₁->
   aK (model prog w) (A.deeper (callEnvC fd s.heap.objs.size a)) (execs body (callEnvC fd s.heap.objs.size a)) (fun f s'=>R (.ok (.ret (match f with | .ret v=>v | _=>.none))) s')
    (fun e s'=>wpAny (model prog w) (A.deeper (callEnvC fd s.heap.objs.size a)) (leaving (callEnvC fd s.heap.objs.size a) e) (fun O v8=>R (.error e) v8) (fun e' v8=>R (.error e') v8) s') s₁)
  (Uo:fd.scope.isCoroutine=false) (Kn:fd.scope.isGenerator=false) (hk:fd.scope.kind=.function):b8 (model prog w) A (.call (.ref a) ⟨vals,[]⟩) R s:=by
 refine iO yy ho Ko Uo Kn yz Ra ?_
 rw[mE,WR]
 refine wpAny_pure (wpAny_newFunctionEnv_cells hk d9 fun env he s' x=>?_)
 subst he
 exact⟨j3.keeps x.toInCall.keep,Km (h s' x)⟩
end
open Sem (wp)
section
variable {M:Model}{A:Around}{E:Value->Shared->Prop}{s:Shared}{env:Env}
theorem Ho {α:Type}{c:Prop} [Decidable c] {pos:Pos}{k:PUnit->Sem α}{Q:α->Shared->Prop} (h:aK M A (k ()) Q E s):aK M A (if c then (standAt pos >>= k) else k ()) Q E s:=by
 split
 ·exact au h
 ·exact h
theorem pK {elt target iter:Expr}{ifs:List Expr}{scope:Scope}{Up pos:Pos}{first:Sem Value}{cl:List (PySem.Str × Addr)}{use:Option (Value->Sem Unit)}{Q:Value->Shared->Prop}
  (hs:∀ x,foldedSetIterable iter env x=pure x) (Kq:closureFor scope env=pure cl) (d9:scope.kind=.function) (ly:∀ x∈scope.names,x.2=.local->scope.names.lookup x.1=some .local)
  (h:aK M A first (fun x s₁=>wpAny M A (pyIter x) (fun it a0=>wpAny M A (newList []) (fun acc dG=>wpAny M A (newFunctionEnv scope env.globals cl [] env.qual none .none (some env)) (fun cenv Bq=>
    b8 M A (.compStart (.ListComp elt [⟨target,iter,ifs,0⟩] scope Up) 0 it acc { cenv with scope:=relabel scope env }) (compPost M A E use Q acc cenv.locals) Bq) E dG) E a0) E s₁) E s) :
  aK M A (comprehension (.ListComp elt [⟨target,iter,ifs,0⟩] scope Up) scope env pos (newList []) false first use) Q E s:=by
 unfold comprehension
 rw[Kq]
 refine aw h fun x s₁ ai=>au (eU (hs x) (aw (az ai.g) fun it a0 aD=>Ho (aw aD.g fun acc dG bE=>eU rfl (aw bE.g fun cenv Bq cU=>?_))))
 ·dsimp only
  have Bu:∀ l:List (PySem.Str × NameKind),(∀ x∈l,x∈(scope.names.filter fun x=>(x.2 == .local||x.2 == .cell)&&x.1 != (".0":PySem.Str)))->∀ x∈l,x.2=.local->Env.kindOf { cenv with scope:=relabel scope env } x.1=some .local:=
   fun l hl x hx hk=>lookup_relabel_local (ly x (List.mem_filter.mp (hl x hx)).1 hk)
  refine az (aI (uF (az (Qf (v9 cU fun r s' hr=>?_)))))
  cases r with
  | ok f=>
   cases use with
   | none=>
    refine Exists.elim hr fun m zz=>aB zz fun hn hr=>?_
    exact aI (az (wpAny_comp_letGo (cenv:={ cenv with scope:=relabel scope env }) d9 _ s' m (Bu _ fun x hx=>List.mem_reverse.mp hx) hn fun h' m' O nJ=>aF (hr h' nJ)).g)
   | some u=>
    refine aI (wpAny_rule (aw (az hr.g) fun _ v8 ⟨m,hn,SV⟩=>?_)).g
    exact aI (wpAny_comp_letGo (cenv:={ cenv with scope:=relabel scope env }) d9 _ v8 m (Bu _ fun x hx=>by
     rcases List.mem_append.mp hx with q | q
     ·exact List.mem_reverse.mp (List.mem_of_mem_drop q)
     ·exact List.mem_reverse.mp (List.mem_of_mem_take q)) hn fun h' m' O nJ=>aF (SV h' nJ)).g
  | error x=>
   have SV:∃ m,s'.heap.Ns cenv.locals m/\∀ h',Heap.SameBut cenv.locals s'.heap h'->∀ Qg:Env,Qg.locals=cenv.locals->wpAny M A (passOn "comprehension.variables-let-go" x Qg:Sem Value) (fun O O=>False) E { s' with heap:=h' }:=by cases use<;>exact hr
   refine Exists.elim SV fun m zz=>aB zz fun hn hr=>?_
   exact aI (az (wpAny_comp_letGo (cenv:={ cenv with scope:=relabel scope env }) d9 _ s' m (Bu _ fun x hx=>List.mem_reverse.mp hx) hn fun h' m' O nJ=>jr (hr h' nJ _ rfl).g (fun O O f=>f.elim) fun O O y=>y).g)
end
section
variable {prog:Program}{w:World}{A:Around}{E:Value->Shared->Prop}{R:Result->Shared->Prop}{s:Shared}{env:Env}
theorem yA {elt target iter ifs scope pos it acc}
  (h0:b8 (model prog w) A (.compLoop (.ListComp elt [⟨target,iter,ifs,0⟩] scope pos) 0 it acc env) R s)
  (h:wpAny (model prog w) A (pyIter it) (fun RL s'=>b8 (model prog w) A (.compLoop (.ListComp elt [⟨target,iter,ifs,0⟩] scope pos) 0 RL acc env) R s') (notedBy (model prog w) A env fun x s'=>R (.error x) s') s) :
  b8 (model prog w) A (.compStart (.ListComp elt [⟨target,iter,ifs,0⟩] scope pos) 0 it acc env) R s:=by
 refine jt rfl ?_
 show aK _ _ ((compStart (.ListComp elt [⟨target,iter,ifs,0⟩] scope pos) 0 it acc env).onRaise (fun x=>do noteFrame x env;standAt theWindowsPlace)) _ _ s
 refine Hi ?_
 show aK _ _ (ask >>= _) _ _ s
 refine aI (wpAny_askSetting ?_).g
 split
 ·exact aF ⟨rfl,h0⟩
 ·refine aI (wpAny_rule ?_).g
  exact au (aw h.g fun RL s' h'=>aF ⟨rfl,h'⟩)
theorem yB {Q:Bool->Shared->Prop} (h:Q true s):aK (model prog w) A (forIn ([]:List Expr) true fun c r=>if r=true then do let ok <- isTrue c env (eval c env);pure (ForInStep.yield ok) else pure (ForInStep.yield r)) Q E s:=aF h
theorem yC {c:Expr}{Q:Bool->Shared->Prop} (h:aK (model prog w) A (isTrue c env (eval c env)) Q E s) :
  aK (model prog w) A (forIn [c] true fun c r=>if r=true then do let ok <- isTrue c env (eval c env);pure (ForInStep.yield ok) else pure (ForInStep.yield r)) Q E s:=by
 simp only[List.forIn_cons,List.forIn_nil,if_true]
 exact aI (aw h fun b s' hb=>aF (aF hb))
theorem Bv {elt target iter:Expr}{ifs:List Expr}{scope:Scope}{pos:Pos}{it acc:Value} (I:Nat->Shared->Prop)
  (turn:∀ n s,I n s->wpAny (model prog w) A (pyNext it) (fun r s₁=>match r with
   | none=>R (.ok .next) s₁
   | some v=>wpAny (model prog w) A (assign target env v) (fun O a0=>
     aK (model prog w) A (forIn ifs true fun c r=>if r=true then do let ok <- isTrue c env (eval c env);pure (ForInStep.yield ok) else pure (ForInStep.yield r)) (fun ok dG=>
      if ok=true then aK (model prog w) A (eval elt env) (fun x Bq=>wpAny (model prog w) A (call (.builtin "list.append") [acc,x]) (fun O Uq=>∃ m,m<n/\I m Uq) (notedBy (model prog w) A env fun e s'=>R (.error e) s') Bq) (notedBy (model prog w) A env fun e s'=>R (.error e) s') dG
      else ∃ m,m<n/\I m dG) (notedBy (model prog w) A env fun e s'=>R (.error e) s') a0) (notedBy (model prog w) A env fun e s'=>R (.error e) s') s₁) (notedBy (model prog w) A env fun e s'=>R (.error e) s') s)
  (n:Nat) (h:I n s) (ht:∀ v,letOwnedTupleGo target it v=pure ():=by intro _;rfl):b8 (model prog w) A (.compLoop (.ListComp elt [⟨target,iter,ifs,0⟩] scope pos) 0 it acc env) R s:=by
 refine Bm rfl rfl I (fun n s hI=>?_) n h
 show aK _ A ((compTurn (.ListComp elt [⟨target,iter,ifs,0⟩] scope pos) 0 it acc env).onRaise (fun x=>do noteFrame x env;theTreesLotGoes x)) _ _ s
 refine p7 ?_
 rw[compTurn_list]
 refine au (aw (turn n s hI).g fun r s₁ ai=>?_)
 cases r with
 | none=>exact aF ai
 | some v=>
  refine eU (ht v) (aw ai.g fun O a0 aD=>aw aD fun ok dG bE=>?_)
  cases ok with
  | false=>exact aF (.inl ⟨rfl,bE⟩)
  | true=>exact aI (aw bE fun x Bq cU=>aw cU.g fun O Uq wg=>aF (aF (.inl ⟨rfl,wg⟩)))
end
section
variable (prog:Program) (w:World) (base:Heap) (cl:dB->Value)
def kE (A:Around) (X:Addr->Prop) (fr:Bool) (t:Sem Value) (s:Shared) (r:R V):Prop:=
 ∀ Q E,Po base cl X fr s r Q E->r≠.stuck->aK (model prog w) A t Q E s
def WT (A:Around) (X:Addr->Prop) (t:Sem (List Value)) (s:Shared) (r:R (List V)):Prop:=
 ∀ Q E,Rz base cl X s r Q E->r≠.stuck->aK (model prog w) A t Q E s
def Ov (A:Around) (t:Sem Bool) (s:Shared) (r:R Bool):Prop:=
 ∀ Q E,Qe base cl s r Q E->r≠.stuck->aK (model prog w) A t Q E s
end
section
variable {prog:Program}{w:World}{base:Heap}{cl:dB->Value}{A:Around}{X:Addr->Prop}{s:Shared}
theorem Ev.g {fr:Bool}{t:Sem Value}{r:R V} (h:Ev prog w base cl A X fr t s r):kE prog w base cl A X fr t s r:=fun Q E p aq=>(h Q E p aq).g
theorem RA.g {t:Sem Bool}{r:R Bool} (h:RA prog w base cl A t s r):Ov prog w base cl A t s r:=fun Q E p aq=>(h Q E p aq).g
theorem kE.stuck {fr:Bool}{t:Sem Value}:kE prog w base cl A X fr t s .stuck:=fun O O O h=>absurd rfl h
theorem kE.weak {fr:Bool}{t:Sem Value}{r:R V} (h:kE prog w base cl A X fr t s r):kE prog w base cl A X false t s r:=
 fun Q E p aq=>h Q E ⟨fun d v h' tk e k rp O=>p.ok d v h' tk e k rp fun q=>(by contradiction),p.ex⟩ aq
theorem kE.BinOp {wh:Addr->Prop}{fr Kr Ks:Bool}{l r:Expr}{op:Operator}{pos:Pos}{env:Env}{ra rb:R V}{g:V->V->R V} (hl:kE prog w base cl A wh Kr (eval l env) s ra)
  (hr:∀ h' tk,Kept base s.heap h'->kE prog w base cl A wh Ks (eval r env) { s with heap:=h',toks:=tk } rb)
  (ho:∀ x y a b h' tk,Rep (seen wh h') x a->Rep (seen wh h') y b->Kept base s.heap h'->kE prog w base cl A X fr (binaryOp op a b) { s with heap:=h',toks:=tk } (g x y)) :
  kE prog w base cl A X fr (eval (.BinOp l op r pos) env) s (ra.bind fun x=>rb.bind fun y=>g x y):=fun Q E p aq=>
 Om (hl _ _ ⟨fun x a h' tk e k rp O=>by
  have ao:=R.aW aq e
  have bP:=p.step (tk:=tk) e k
  exact hr h' tk k _ _ ⟨fun y b aD bD bK k₂ gT O=>ho x y a b aD bD (k₂.rep rp) gT (k.trans k₂) Q E (bP.step bK k₂) (R.aW ao bK),bP.ex.of⟩ (R.aN ao),p.ex.of⟩ (R.aN aq))
theorem kE.Compare {wh:Addr->Prop}{fr Kr Ks:Bool}{l r:Expr}{op:CmpOp}{pos:Pos}{env:Env}{ra rb:R V}{g:V->V->R V} (hl:kE prog w base cl A wh Kr (eval l env) s ra)
  (hm:behindInMarks op r=false)
  (hr:∀ h' tk,Kept base s.heap h'->kE prog w base cl A wh Ks (eval r env) { s with heap:=h',toks:=tk } rb)
  (ho:∀ x y a b h' tk,Rep (seen wh h') x a->Rep (seen wh h') y b->Kept base s.heap h'->kE prog w base cl A X fr (compareOp op a b) { s with heap:=h',toks:=tk } (g x y)) :
  kE prog w base cl A X fr (eval (.Compare l [op] [r] pos) env) s (ra.bind fun x=>rb.bind fun y=>g x y):=fun Q E p aq=>
 Bp (hl _ _ ⟨fun x a h' tk e k rp O=>by
  have ao:=R.aW aq e
  have bP:=p.step (tk:=tk) e k
  exact hr h' tk k _ _ ⟨fun y b aD bD bK k₂ gT O=>ho x y a b aD bD (k₂.rep rp) gT (k.trans k₂) Q E (bP.step bK k₂) (R.aW ao bK),bP.ex.of⟩ (R.aN ao),p.ex.of⟩ (R.aN aq)) hm
theorem kE.guard {fr:Bool}{t:Sem Value}{c:Bool}{r:R V} (h:c=true->kE prog w base cl A X fr t s r):kE prog w base cl A X fr t s (R.guard c r):=by
 unfold R.guard
 split
 ·exact h (by assumption)
 ·exact .stuck
end
theorem bB {X:Addr->Prop}{h:Heap} (i:Int) (t:Tok):Rep (seen X h) (.int i) (.int i t):=by skip;exact⟨t,rfl⟩
theorem et {X:Addr->Prop}{h:Heap} (b:Bool):Rep (seen X h) (.bool b) (.bool b):=by rw[Ke]
theorem rN {X:Addr->Prop}{h:Heap}:Rep (seen X h) .none .none:=by rw[Kd]
theorem c6 {X:Addr->Prop}{h:Heap}{x:Str}{l:List Nat} (t:Tok) (e:x.cps.toList=l) (hl:l.length<=16777216):Rep (seen X h) (.str l) (.str x t):=by skip;exact⟨x,t,rfl,e,hl⟩
theorem dF {X:Addr->Prop}{h:Heap}{x:Array UInt8}{l:List Nat} (t:Tok) (e:x.toList.map UInt8.toNat=l) (hl:l.length<=16777216):Rep (seen X h) (.bytes l) (.bytes x t):=by skip;exact⟨x,t,rfl,e,hl⟩
theorem gk {g:Addr->Obj->Prop}{i:Int}{v:Value} (r:Rep g (.int i) v):∃ t,v=.int i t:=by skip;exact r
theorem rO {g:Addr->Obj->Prop}{b:Bool}{v:Value} (r:Rep g (.bool b) v):v=.bool b:=by skip;exact r
theorem yD {g:Addr->Obj->Prop}{v:Value} (r:Rep g .none v):v=.none:=by skip;exact r
theorem fy {g:Addr->Obj->Prop}{l:List Nat}{v:Value} (r:Rep g (.str l) v):∃ x t,v=.str x t/\x.cps.toList=l/\l.length<=16777216:=by skip;exact r
theorem ef {g:Addr->Obj->Prop}{l:List Nat}{v:Value} (r:Rep g (.bytes l) v):∃ x t,v=.bytes x t/\x.toList.map UInt8.toNat=l/\l.length<=16777216:=by skip;exact r
@[elab_as_elim] theorem aP {g:Addr->Obj->Prop}{i:Int}{M:Value->Prop}{v:Value} (r:Rep g (.int i) v) (f:∀ t,M (.int i t)):M v:=Exists.elim (gk r) fun t e=>e ▸ f t
@[elab_as_elim] theorem iD {g:Addr->Obj->Prop}{b:Bool}{M:Value->Prop}{v:Value} (r:Rep g (.bool b) v) (f:M (.bool b)):M v:=rO r ▸ f
@[elab_as_elim] theorem mG {g:Addr->Obj->Prop}{M:Value->Prop}{v:Value} (r:Rep g .none v) (f:M .none):M v:=yD r ▸ f
@[elab_as_elim] theorem cH {g:Addr->Obj->Prop}{l:List Nat}{M:Value->Prop}{v:Value} (r:Rep g (.str l) v) (f:∀ x t,x.cps.toList=l->l.length<=16777216->M (.str x t)):M v:=bT (fy r) fun x t z=>b5 z fun q e h=>q ▸ f x t e h
@[elab_as_elim] theorem aT {g:Addr->Obj->Prop}{l:List Nat}{M:Value->Prop}{v:Value} (r:Rep g (.bytes l) v) (f:∀ x t,x.toList.map UInt8.toNat=l->l.length<=16777216->M (.bytes x t)):M v:=bT (ef r) fun x t z=>b5 z fun q e h=>q ▸ f x t e h
theorem str_len {x:Str}{l:List Nat} (e:x.cps.toList=l):x.length=l.length:=by subst e;simp[Str.length]
theorem a8 {x:Array UInt8}{l:List Nat} (e:x.toList.map UInt8.toNat=l):x.size=l.length:=by subst e;simp
theorem lA {x y:Str}{l m:List Nat} (e:x.cps.toList=l) (f:y.cps.toList=m):(x++y).cps.toList=l++m:=by
 subst e;subst f
 show (x.cps++y.cps).toList=_
 simp
theorem s9 {n k:Nat} (h:n<2 ^ k):n.log2<=k:=by
 by_cases h0:n=0
 ·subst h0;simp
 ·exact Nat.le_of_lt ((Nat.log2_lt h0).mpr h)
theorem yE {a:Int} (h:a.natAbs<pB):Builtin.Int.intBits a<=2 ^ 20:=by
 have h1:pB<=2 ^ 16000:=by
  set_option exponentiation.threshold 20000 in
  calc 10 ^ 4000<=16 ^ 4000:=Nat.pow_le_pow_left (by decide) _
   _=2 ^ 16000:=by rw[show (16:Nat)=2 ^ 4 from rfl,<- Nat.pow_mul]
 have h2:=s9 (Nat.lt_of_lt_of_le h h1)
 unfold Builtin.Int.intBits
 split
 ·lia
 ·lia
theorem rP {X:Addr->Prop}{h:Heap}{d:List V}{v:Value} (r:Rep (seen X h) (.list d) v):∃ a dd sl vs n,v=.ref a/\¬ X a/\h.get? a=some ⟨.type "list",dd,.seq vs n,sl⟩/\d.length<=16777216/\ay (seen X h) d vs.toList:=by
 refine kK r fun a mj vs n zz=>zl zz fun e WU hc hd hl rl=>?_;obtain⟨c,dd,data,sl⟩:=mj;obtain⟨ho,hX⟩:=WU
 subst hc hd
 exact⟨a,dd,sl,vs,n,e,hX,ho,hl,rl⟩
theorem uG {X:Addr->Prop}{h:Heap}{d:List V}{v:Value} (r:Rep (seen X h) (.tuple d) v):∃ a dd sl vs n,v=.ref a/\¬ X a/\h.get? a=some ⟨.type "tuple",dd,.seq vs n,sl⟩/\d.length<=16777216/\ay (seen X h) d vs.toList:=by
 refine kK r fun a mj vs n zz=>zl zz fun e WU hc hd hl rl=>?_;obtain⟨c,dd,data,sl⟩:=mj;obtain⟨ho,hX⟩:=WU
 subst hc hd
 exact⟨a,dd,sl,vs,n,e,hX,ho,hl,rl⟩
@[elab_as_elim] theorem dQ {X:Addr->Prop}{h:Heap}{d:List V}{M:Value->Prop}{v:Value} (r:Rep (seen X h) (.list d) v) (f:∀ a dd sl vs n,¬ X a->h.get? a=some ⟨.type "list",dd,.seq vs n,sl⟩->d.length<=16777216->ay (seen X h) d vs.toList->M (.ref a)):M v:=Te (rP r) fun a dd sl vs n z=>nk z fun q x o l w=>q ▸ f a dd sl vs n x o l w
@[elab_as_elim] theorem ju {X:Addr->Prop}{h:Heap}{d:List V}{M:Value->Prop}{v:Value} (r:Rep (seen X h) (.tuple d) v) (f:∀ a dd sl vs n,¬ X a->h.get? a=some ⟨.type "tuple",dd,.seq vs n,sl⟩->d.length<=16777216->ay (seen X h) d vs.toList->M (.ref a)):M v:=Te (uG r) fun a dd sl vs n z=>nk z fun q x o l w=>q ▸ f a dd sl vs n x o l w
section
variable {prog:Program}{w:World}{base:Heap}{cl:dB->Value}{A:Around}{X:Addr->Prop}{s:Shared}
def ni (X:Addr->Prop) (h:Heap):Prop:=∀ a,X a->∃ o,h.get? a=some o
theorem ni.kept {base h h':Heap} (l:ni X h) (k:Kept base h h'):ni X h':=fun a x=>let ⟨_,e⟩:=l a x;let ⟨o',e',_⟩:=k.same e;⟨o',e'⟩
theorem ni.none {h:Heap}{a:Addr} (l:ni X h) (n:h.get? a=.none):¬ X a:=fun x=>by refine Exists.elim (l a x) fun o e=>?_;rw[e] at n;contradiction
theorem bS (h:Heap):h.get? h.objs.size=none:=Heap.get?_none_of_le (Nat.le_refl _)
theorem mH {ds:List V}{vs:Array Value}{fr:Bool}{t:Sem Value} (hl:ds.length<=16777216) (hX:ni X s.heap) (r:ay (seen X s.heap) ds vs.toList)
  (h:∀ (Q E:Value->Shared->Prop),(∀ tk,Q (.ref s.heap.objs.size) { s with heap:=s.heap.push { cls:=.type "list",data:=.seq vs },toks:=tk })->wpAny (model prog w) A t Q E s) :
  Ev prog w base cl A X fr t s (.ok (.list ds)):=.val fun Q E hQ=>h Q E fun tk=>by
 have k:=Kept.push base s.heap { cls:=.type "list",data:=.seq vs }
 have e:(s.heap.push { cls:=.type "list",data:=.seq vs }).get? s.heap.objs.size=some { cls:=.type "list",data:=.seq vs }:=Heap.get?_push_size _ rfl
 have own:b0 (s.heap.push { cls:=.type "list",data:=.seq vs }) X s.heap.objs.size (.list ds):=⟨_,vs,0,e,rfl,rfl,rfl,hl,k.j5 (r.fresh (bS _))⟩
 exact hQ _ _ _ k (own.rep (hX.none (bS _))) fun O=>⟨_,rfl,bS _,own⟩
theorem ay.replicate {g:Addr->Obj->Prop}{d:List V}{v:List Value} (r:ay g d v):∀ n:Nat,ay g (List.replicate n d).flatten (List.replicate n v).flatten:=by
 intro z0
 induction z0 with
 | zero=>exact  ay.nil
 | succ n ih=>
  rw[List.replicate_succ,List.replicate_succ,List.flatten_cons,List.flatten_cons]
  exact r.append (ih)
noncomputable def QG.op:QG->Operator
 | .add=>.Add
 | .sub=>.Sub
 | .mul=>.Mult
 | .fdiv=>.FloorDiv
 | .mod=>.Mod
 | .pow=>.Pow
theorem iS {α β:Type} (f:α->β) (n:Nat) (l:List α):((List.replicate n l).flatten).map f=(List.replicate n (l.map f)).flatten:=by
 rw[List.map_flatten,List.map_replicate]
theorem mI {α:Type} (n:Nat) (l:List α):(List.replicate n l).flatten.length=n*l.length:=by simp
set_option tactic.hygienic true in
theorem RM (hX:ni X s.heap) (op:QG) {x y:V}{a b:Value} (rx:Rep (seen X s.heap) x a) (ry:Rep (seen X s.heap) y b) :
  Ev prog w base cl A X true (binaryOp op.op a b) s (sN op x y):=by
 cases op<;>cases x<;>(try exact Ev.stuck)<;>cases y<;>try exact Ev.stuck
 ·
  refine aP rx fun t=>?_
  refine aP ry fun u=>?_
  exact Ev.flat (fun O O O=>trivial) fun Q E hQ=>add_int (hQ _ _ (bB _ _))
 ·
  refine cH rx fun x t e O=>?_
  refine cH ry fun y u f O=>?_
  refine Ev.guard fun g=>Ev.flat (fun O O O=>trivial) fun Q E hQ=>have:=of_decide_eq_true g;PyProof.Rows.add_str (fun t' tk=>hQ _ _ (c6 _ (lA e f) (by rw[List.length_append];unfold lim at this;lia))) ?_
  have:=of_decide_eq_true g
  rw[str_len e,str_len f,sizeLine_eq]
  unfold lim at this;lia
 ·
  refine aT rx fun x t e O=>?_
  refine aT ry fun y u f O=>?_
  refine Ev.guard fun g=>Ev.flat (fun O O O=>trivial) fun Q E hQ=>have:=of_decide_eq_true g;KBy.add_bytes ?_ (fun t' tk=>hQ _ _ (dF _ (by subst e;subst f;simp) (by rw[List.length_append];unfold lim at this;lia)))
  have:=of_decide_eq_true g
  rw[a8 e,a8 f]
  unfold lim at this;lia
 ·
  refine dQ rx fun a dd sl vs n Ur ho NB r1=>?_
  refine dQ ry fun b Us Io ws n' V2 ll AX r2=>?_
  refine Ev.guard fun g=>mH (vs:=vs++ws) (by have:=of_decide_eq_true g;rw[List.length_append];unfold lim at this;lia) hX (by rw[Array.toList_append];exact r1.append r2) fun Q E hQ=>?_
  have:=of_decide_eq_true g
  refine concat_meets ⟨_,ho,rfl⟩ ⟨_,ll,rfl⟩ noFill_list_add seq_list_add PySem.F.slot_list_add PySem.F.entry_list_add (PySem.F.args_list_add_2 _ _) (list_addW a b vs ws n n' dd Us sl Io ?_) ⟨ho,ll,hQ s.toks⟩
  have e1:=r1.length
  have e2:=r2.length
  rw[Array.length_toList] at e1 e2
  rw[e1,e2,sizeLine_eq]
  unfold lim at this;lia
 ·refine aP rx fun t=>?_
  refine aP ry fun u=>?_
  exact Ev.flat (fun O O O=>trivial) fun Q E hQ=>sub_int' (hQ _ _ (bB _ _))
 ·refine aP rx fun t=>?_
  refine aP ry fun u=>?_
  refine Ev.guard fun g=>Ev.flat (fun O O O=>trivial) fun Q E hQ=>PyProof.Rows.mul_int (hQ _ _ (bB _ _)) ?_
  rw[Bool.and_eq_true] at g
  exact IntMulOk.of_bits (yE (of_decide_eq_true g.1)) (yE (of_decide_eq_true g.2))
 ·
  obtain⟨x,t,rfl,e,-⟩:=ef rx
  refine Exists.elim (gk ry) fun u av=>?_;subst av
  refine Ev.guard fun g=>Ev.flat (fun O O O=>trivial) fun Q E hQ=>?_
  obtain⟨l⟩:=x
  dsimp only at e
  rename_i i
  simp only[Bool.and_eq_true,decide_eq_true_eq] at g
  have hl:l.length=1:=by rw[<- g.1.1,<- e,List.length_map]
  refine bytes_mul_any (b:=l) (n:=i) ?_ ?_ ?_ ?_ fun t' k=>hQ _ _ (dF _ ?_ ?_)
  ·intro q;rw[q] at hl;contradiction
  ·lia
  ·lia
  ·lia
  ·rw[iS,e]
  ·rw[mI,g.1.1];lia
 ·
  refine dQ rx fun a dd sl vs n Ur ho NB r1=>?_
  refine aP ry fun u=>?_
  rename_i x
  refine Ev.guard fun g=>?_
  simp only[Bool.and_eq_true,decide_eq_true_eq] at g
  have hl:vs.size=1:=by have:=r1.length;rw[Array.length_toList] at this;lia
  refine mH (vs:=(List.replicate x.toNat vs.toList).flatten.toArray) (by rw[mI,g.1.1];lia) hX (r1.replicate _) fun Q E hQ=>?_
  refine wpAny_binaryOp_repeat_ref (T:="list") (U:="int") (by decide) ⟨_,ho,rfl⟩ (fun s'=>typeIs_int s' x u) noFill_list_mul PySem.F.fills_int_mul PySem.F.slot_int_rmul repeat_list PySem.F.slot_int_index.lookup
   (call_meets PySem.F.slot_int_rmul (typeIs_int s x u) PySem.F.entry_int_rmul (PySem.F.args_int_rmul_2 _ _) (lm_int_rmul_list_any x u a vs n dd sl)
    ⟨ho,rfl,⟨_,ho,rfl⟩,call_meets PySem.F.slot_list_mul ⟨_,ho,rfl⟩ PySem.F.entry_list_mul (PySem.F.args_list_mul_2 _ _)
     (lm_list_mul_any a vs n dd sl x u (by simp[Builtin.List.listFitsIndex];lia) (by rw[hl];lia) (by simp[Builtin.List.listTooLong,sizeLine,hl];lia))
     ⟨ho,?_⟩⟩)
  have:=hQ s.toks
  obtain⟨l⟩:=vs
  rw[listMul_foldl_if]
  exact this
 ·refine aP rx fun t=>?_
  refine aP ry fun u=>?_
  refine Ev.guard fun g=>Ev.flat (fun O O O=>trivial) fun Q E hQ=>PyProof.Rows.floordiv_int ?_ (hQ _ _ (bB _ _)) (Or.inl (PyProof.noPylong_small ?_))
  ·simp at g;lia
  ·simp at g;lia
 ·refine aP rx fun t=>?_
  refine aP ry fun u=>?_
  refine Ev.guard fun g=>Ev.flat (fun O O O=>trivial) fun Q E hQ=>PyProof.Rows.mod_int' ?_ (hQ _ _ (bB _ _))
  simp at g;lia
 ·refine aP rx fun t=>?_
  refine aP ry fun u=>?_
  refine Ev.guard fun g=>Ev.flat (fun O O O=>trivial) fun Q E hQ=>PyProof.Rows.pow_int ?_ ?_ (hQ _ _ (bB _ _))
  ·simp at g;lia
  ·simp only[Bool.and_eq_true,decide_eq_true_eq] at g
   rename_i a b
   have h1:Builtin.Int.intBits a<=101:=by
    unfold Builtin.Int.intBits
    split
    ·lia
    ·have:=Nat.log2_le_self a.natAbs;lia
   have h2:(Builtin.Int.intBits a:Int)*b<=101*100:=Int.mul_le_mul (by lia) g.2 g.1.2 (by decide)
   lia
noncomputable def PH.op:PH->CmpOp
 | .eq=>.Eq
 | .ne=>.NotEq
 | .lt=>.Lt
 | .le=>.LtE
 | .gt=>.Gt
 | .ge=>.GtE
 | .is=>.Is
 | .lO=>.IsNot
 | .isIn=>.In
theorem gm {α:Type} [BEq α] [LawfulBEq α] [DecidableEq α] (a b:α):(a == b)=decide (a=b):=by
 by_cases h:a=b
 ·simp[h]
 ·rw[decide_eq_false h];simpa using h
theorem gB {a b:Array UInt8} (h:a.toList.map UInt8.toNat=b.toList.map UInt8.toNat):a.toList=b.toList:=by
 have:∀ {l m:List UInt8},l.map UInt8.toNat=m.map UInt8.toNat->l=m:=by
  intro l
  induction l with
  | nil=>intro m h;cases m with | nil=>rfl | cons _ _=>contradiction
  | cons x l ih=>
   intro m h
   cases m with
   | nil=>contradiction
   | cons y m=>
    simp only[List.map_cons,List.cons.injEq] at h
    rw[ih h.2,UInt8.toNat_inj.mp h.1]
 exact this h
inductive S3:V->V->Bool->Prop
 | bool (a b:Bool):S3 (.bool a) (.bool b) (decide (a=b))
 | int (a b:Int):S3 (.int a) (.int b) (decide (a=b))
 | str (a b:List Nat):S3 (.str a) (.str b) (decide (a=b))
 | bytes (a b:List Nat):S3 (.bytes a) (.bytes b) (decide (a=b))
theorem Di (x y:V):tE x y=.stuck∨∃ k,tE x y=.ok k/\S3 x y k:=by
 cases x<;>cases y<;>first | exact .inl rfl | exact .inr ⟨_,rfl,.bool _ _⟩ | exact .inr ⟨_,rfl,.int _ _⟩ | exact .inr ⟨_,rfl,.str _ _⟩ | exact .inr ⟨_,rfl,.bytes _ _⟩
theorem rQ {x y:V}{k:Bool} (h:tE x y=.ok k):S3 x y k:=by
 rcases Di x y with e | ⟨aaH,e,v⟩
 ·rw[e] at h;contradiction
 ·rw[e] at h;injection h with h;exact h ▸ v
theorem wi {x y:V}{r:R Bool} (h:V.eq x y=r):(∃ xs ys,x=.list xs/\y=.list ys/\(if xs.length=ys.length then kM xs ys else .ok false)=r)∨(∃ xs ys,x=.tuple xs/\y=.tuple ys/\(if xs.length=ys.length then kM xs ys else .stuck)=r)∨tE x y=r:=by
 cases x with
 | list xs=>
  cases y with
  | list ys=>exact .inl ⟨_,_,rfl,rfl,h⟩
  | _=>exact .inr (.inr h)
 | tuple xs=>
  cases y with
  | tuple ys=>exact .inr (.inl ⟨_,_,rfl,rfl,h⟩)
  | _=>exact .inr (.inr h)
 | _=>exact .inr (.inr h)
open PySem.SeqAt in
theorem Hp {x y:V}{a b:Value}{k:Bool}{g:Addr->Obj->Prop} (e:tE x y=.ok k) (rx:Rep g x a) (ry:Rep g y b):EqAt A s a b k:=by
 cases rQ e with
 | bool a b=>
  refine iD rx ?_
  refine iD ry ?_
  intro prog w E Q h
  refine wpAny_holding ?_
  refine wpAny_ite_split (fun Wi=>?_) (fun Wi=>?_)
  ·have:a=b:=by have:=eq_of_beq Wi;injection this
   simp only[this,decide_true] at h
   exact wpAny_bind (wpAny_rule (wpAny_pure h))
  ·refine wpAny_bind (PyProof.Rows.eq_bool (c:=a) (d:=b) ?_)
   refine wpAny_truthy_bool ?_
   have:(a == b)=decide (a=b):=by cases a<;>cases b<;>rfl
   rw[this];exact h
 | int a b=>
  refine aP rx fun t=>?_
  refine aP ry fun u=>?_
  intro prog w E Q h
  exact wpAny_eqBool_int h
 | str a b=>
  refine cH rx fun x t e1 O=>?_
  refine cH ry fun y u e2 O=>?_
  intro prog w E Q h
  refine wpAny_eqBool_str ?_
  have:decide (x=y)=decide (x.cps.toList=y.cps.toList):=by
   obtain⟨⟨l⟩⟩:=x;obtain⟨⟨m⟩⟩:=y;simp
  rw[this,e1,e2];exact h
 | bytes a b=>
  refine aT rx fun x t e1 O=>?_
  refine aT ry fun y u e2 O=>?_
  intro prog w E Q h
  refine eqBool_bytes ?_
  have:decide (x.toList=y.toList)=decide (x.toList.map UInt8.toNat=y.toList.map UInt8.toNat):=by
   by_cases q:x.toList=y.toList
   ·simp[q]
   ·rw[decide_eq_false q,decide_eq_false fun z=>q (gB z)]
  rw[this,e1,e2];exact h
theorem jv:∀ {xs ys:List V}{k:Bool},kM xs ys=.ok k->∃ e:Nat->Bool,(∀ i x y,xs[i]?=some x->ys[i]?=some y->tE x y=.ok (e i))/\(List.range xs.length).all e=k/\xs.length=ys.length
 | [],[],k,h=>⟨fun O=>true,fun i x y h=>by simp at h,by cases h;rfl,rfl⟩
 | x::xs,y::ys,k,h=>by
  rw[lQ] at h
  cases hf:tE x y with
  | ok b=>
   rw[hf] at h
   cases hs:kM xs ys with
   | ok c=>
    rw[hs] at h
    refine Exists.elim (jv hs) fun e zz=>b5 zz fun h1 h2 h3=>?_
    refine⟨fun i=>match i with | 0=>b | i+1=>e i,fun i x' y' q1 q2=>?_,?_,by simp[h3]⟩
    ·cases i with
     | zero=>simp at q1 q2;subst q1;subst q2;exact hf
     | succ i=>simp at q1 q2;exact h1 i x' y' q1 q2
    ·injection h with h;subst h
     rw[List.length_cons,List.range_succ_eq_map,List.all_cons,List.all_map,<- h2]
     rfl
   | exc _=>rw[hs] at h;contradiction
   | stuck=>rw[hs] at h;contradiction
  | exc _=>rw[hf] at h;contradiction
  | stuck=>rw[hf] at h;contradiction
 | [],_::_,_,h=>by contradiction
 | _::_,[],_,h=>by contradiction
open PySem.SeqAt in
theorem iE {g:Addr->Obj->Prop}{xs ys:List V}{vs ws:Array Value}{e:Nat->Bool} (h:∀ i x y,xs[i]?=some x->ys[i]?=some y->tE x y=.ok (e i)) (r1:ay g xs vs.toList) (r2:ay g ys ws.toList) :
  ∀ aaH (h1:aaH<vs.size) (h2:aaH<ws.size),EqAt A s vs[aaH] ws[aaH] (e aaH):=fun aaH h1 h2=>by
 have l1:=r1.length
 have l2:=r2.length
 rw[Array.length_toList] at l1 l2
 have e1:xs[aaH]?=some xs[aaH]:=by rw[List.getElem?_eq_getElem]
 have e2:ys[aaH]?=some ys[aaH]:=by rw[List.getElem?_eq_getElem]
 refine Exists.elim (r1.get e1) fun v zz=>aB zz fun q1 s1=>?_
 refine Exists.elim (r2.get e2) fun u zz=>aB zz fun q2 s2=>?_
 have Zy:vs[aaH]=v:=by simpa [h1] using q1
 have Zz:ws[aaH]=u:=by simpa [h2] using q2
 rw[Zy,Zz]
 exact Hp (h aaH _ _ e1 e2) s1 s2
open PySem.SeqAt in
theorem Ow {x y:V}{a b:Value}{k:Bool}{g:Addr->Obj->Prop} (e:tE x y=.ok k) (rx:Rep g x a) (ry:Rep g y b) {Q E:Value->Shared->Prop} (h:Q (.bool k) s):wpAny (model prog w) A (compareOp .Eq a b) Q E s:=by
 cases rQ e with
 | bool a b=>
  refine iD rx ?_
  refine iD ry ?_
  refine PyProof.Rows.eq_bool ?_
  have:(a == b)=decide (a=b):=by cases a<;>cases b<;>rfl
  rw[this];exact h
 | int a b=>
  refine aP rx fun t=>?_
  refine aP ry fun u=>?_
  refine PyProof.Rows.eq_int ?_
  have:(a == b)=decide (a=b):=by rw[gm]
  rw[this];exact h
 | str a b=>
  obtain⟨x,t,rfl,e1,-⟩:=fy rx
  obtain⟨y,u,rfl,e2,-⟩:=fy ry
  refine PySem.P.eq_str ?_
  rw[e1,e2]
  have:(a == b)=decide (a=b):=by rw[gm]
  rw[this];exact h
 | bytes a b=>
  refine aT rx fun x t e1 O=>?_
  refine aT ry fun y u e2 O=>?_
  refine PySem.W.eq_bytes ?_
  have:(x.toList == y.toList)=decide (x.toList.map UInt8.toNat=y.toList.map UInt8.toNat):=by
   by_cases q:x.toList=y.toList
   ·simp[q]
   ·rw[decide_eq_false fun z=>q (gB z)];simpa using q
  rw[this,e1,e2];exact h
theorem Bw {x y:V}{a b:Value}{k:Bool}{g:Addr->Obj->Prop} (e:tE x y=.ok k) (rx:Rep g x a) (ry:Rep g y b) {Q E:Value->Shared->Prop} (h:Q (.bool !k) s):wpAny (model prog w) A (compareOp .NotEq a b) Q E s:=by
 cases rQ e with
 | bool a b=>
  refine iD rx ?_
  refine iD ry ?_
  refine PyProof.Rows.ne_bool ?_
  have:(a != b)=!decide (a=b):=by cases a<;>cases b<;>rfl
  rw[this];exact h
 | int a b=>
  refine aP rx fun t=>?_
  refine aP ry fun u=>?_
  refine PyProof.Rows.ne_int ?_
  have:(a != b)=!decide (a=b):=by rw[bne,gm]
  rw[this];exact h
 | str a b=>
  obtain⟨x,t,rfl,e1,-⟩:=fy rx
  obtain⟨y,u,rfl,e2,-⟩:=fy ry
  refine PySem.P.ne_str ?_
  rw[e1,e2]
  have:(a != b)=!decide (a=b):=by rw[bne,gm]
  rw[this];exact h
 | bytes a b=>
  refine aT rx fun x t e1 O=>?_
  refine aT ry fun y u e2 O=>?_
  refine PySem.W.ne_bytes ?_
  have:(x.toList != y.toList)=!decide (x.toList.map UInt8.toNat=y.toList.map UInt8.toNat):=by
   by_cases q:x.toList=y.toList
   ·simp[q]
   ·rw[decide_eq_false fun z=>q (gB z)];simpa using q
  rw[this,e1,e2];exact h
theorem bF {h:Heap}{a:Addr}{dd:Option Addr}{sl:Array (Option Value)}{vs:Array Value}{n:Nat} (e:h.get? a=some ⟨.type "list",dd,.seq vs n,sl⟩):h.IsList a vs:=⟨_,e,rfl,n,rfl⟩
theorem fU {h:Heap}{a:Addr}{dd:Option Addr}{sl:Array (Option Value)}{vs:Array Value}{n:Nat} (e:h.get? a=some ⟨.type "tuple",dd,.seq vs n,sl⟩):h.IsTuple a vs:=⟨_,e,rfl,n,rfl⟩
theorem Ut (hu:A.units+100<cLine) {x y:V}{a b:Value}{k:Bool} (e:V.eq x y=.ok k) (rx:Rep (seen X s.heap) x a) (ry:Rep (seen X s.heap) y b) {Q E:Value->Shared->Prop} (h:Q (.bool k) s):wpAny (model prog w) A (compareOp .Eq a b) Q E s:=by
 have RN:A.units<cLine:=by lia
 have e':=wi e;clear e
 rcases e' with ⟨xs,ys,rfl,rfl,e⟩ | ⟨xs,ys,rfl,rfl,e⟩ | e
 ·refine dQ rx fun a dd sl vs n Ur ho NB r1=>?_
  refine dQ ry fun b Us Io ws n' V2 ll AX r2=>?_
  have l1:=r1.length
  have l2:=r2.length
  rw[Array.length_toList] at l1 l2
  split at e
  ·refine Exists.elim (jv e) fun f zz=>b5 zz fun h1 h2 h3=>?_
   refine PySem.SeqAt.eq_listAt (bF ho) (bF ll) (by lia) RN (iE h1 r1 r2) ?_
   rw[l1,h2];exact h
  ·injection e with e;subst e
   refine PySem.SeqAt.eq_list_lengthsAt (bF ho) (bF ll) ?_ RN h
   simpa [l1,l2] using ‹_›
 ·refine ju rx fun a dd sl vs n Ur ho NB r1=>?_
  refine ju ry fun b Us Io ws n' V2 ll AX r2=>?_
  have l1:=r1.length
  have l2:=r2.length
  rw[Array.length_toList] at l1 l2
  split at e
  ·refine Exists.elim (jv e) fun f zz=>b5 zz fun h1 h2 h3=>?_
   refine PySem.SeqAt.eq_tupleAt (fU ho) (fU ll) RN (iE h1 r1 r2) ?_
   rw[l1,l2,h3,Nat.min_self,<- h3,h2]
   simpa using h
  ·contradiction
 ·exact Ow e rx ry h
theorem Uu (hu:A.units+100<cLine) {x y:V}{a b:Value}{k:Bool} (e:V.eq x y=.ok k) (rx:Rep (seen X s.heap) x a) (ry:Rep (seen X s.heap) y b) {Q E:Value->Shared->Prop} (h:Q (.bool !k) s):wpAny (model prog w) A (compareOp .NotEq a b) Q E s:=by
 have RN:A.units<cLine:=by lia
 have e':=wi e;clear e
 rcases e' with ⟨xs,ys,rfl,rfl,e⟩ | ⟨xs,ys,rfl,rfl,e⟩ | e
 ·refine dQ rx fun a dd sl vs n Ur ho NB r1=>?_
  refine dQ ry fun b Us Io ws n' V2 ll AX r2=>?_
  have l1:=r1.length
  have l2:=r2.length
  rw[Array.length_toList] at l1 l2
  split at e
  ·refine Exists.elim (jv e) fun f zz=>b5 zz fun h1 h2 h3=>?_
   refine PySem.SeqAt.RcNeAt.lists (bF ho) (bF ll) (by lia) RN (iE h1 r1 r2) prog w E Q ?_
   rw[l1,h2];exact h
  ·injection e with e;subst e
   refine PySem.SeqAt.RcNeAt.lists_lengths (bF ho) (bF ll) ?_ RN prog w E Q h
   simpa [l1,l2] using ‹_›
 ·refine ju rx fun a dd sl vs n Ur ho NB r1=>?_
  refine ju ry fun b Us Io ws n' V2 ll AX r2=>?_
  have l1:=r1.length
  have l2:=r2.length
  rw[Array.length_toList] at l1 l2
  split at e
  ·refine Exists.elim (jv e) fun f zz=>b5 zz fun h1 h2 h3=>?_
   refine PySem.SeqAt.RcNeAt.tuples (fU ho) (fU ll) RN (iE h1 r1 r2) prog w E Q ?_
   rw[l1,l2,h3,Nat.min_self,<- h3,h2]
   simpa using h
  ·contradiction
 ·exact Bw e rx ry h
theorem rR {x y:V}{z:dB} (q:tE x y=.exc z):False:=by
 rcases Di x y with e | ⟨k,e,_⟩<;>rw[e] at q<;>contradiction
theorem jw:∀ {xs ys:List V}{z:dB},kM xs ys=.exc z->False
 | [],[],_,q=>by contradiction
 | [],_::_,_,q=>by contradiction
 | _::_,[],_,q=>by contradiction
 | x::xs,y::ys,z,q=>by
  rw[lQ] at q
  cases h1:tE x y with
  | ok b=>
   rw[h1] at q
   cases h2:kM xs ys with
   | ok c=>rw[h2] at q;contradiction
   | exc w=>exact jw h2
   | stuck=>rw[h2] at q;contradiction
  | exc w=>exact rR h1
  | stuck=>rw[h1] at q;contradiction
theorem uH {x y:V}{z:dB} (e:V.eq x y=.exc z):False:=by
 have e':=wi e;clear e
 rcases e' with ⟨xs,ys,rfl,rfl,e⟩ | ⟨xs,ys,rfl,rfl,e⟩ | e
 ·split at e
  ·exact jw e
  ·contradiction
 ·split at e
  ·exact jw e
  ·contradiction
 ·exact rR e
theorem o1 {g:Addr->Obj->Prop}{x:V}{a:Value} (r:Rep g x a) (h:x≠.none):a≠.none:=by
 intro q
 subst q
 cases x with
 | none=>exact h rfl
 | bool b=>cases rO r
 | int b=>refine Exists.elim (gk r) fun O e=>?_;contradiction
 | str b=>obtain⟨_,_,e,_,-⟩:=fy r;contradiction
 | bytes b=>obtain⟨_,_,e,_,-⟩:=ef r;contradiction
 | b9 b=>skip;refine kK r fun O O O O zz=>aB zz fun e O=>?_;contradiction
 | list b=>skip;refine kK r fun O O O O zz=>aB zz fun e O=>?_;contradiction
 | tuple b=>skip;refine kK r fun O O O O zz=>aB zz fun e O=>?_;contradiction
theorem n7:typeLookup (.type "bytes") "__index__"=pure none:=by rw[typeLookup_type,builtinLookup_eq_fast];kernel_rfl
theorem ta {x:Array UInt8}{t:Tok}{base:Heap}{Q:Int->Shared->Prop}{E:Value->Shared->Prop} (hh:cy A s.heap)
  (h:∀ e h' tk,Kept base s.heap h'->E (.ref e) { s with heap:=h',toks:=tk }):wpAny (model prog w) A (asIndex (.bytes x t)) Q E s:=by
 refine wpAny_bind (m:=asInt? (.bytes x t)) (wpAny_pure ?_)
 refine wpAny_bind (wpAny_callSpecial?_none (typeIs_bytes s x t) n7 ?_)
 refine wpAny_bind (m:=typeNameOfCut 200 (.bytes x t)) (wpAny_of_eq (a:="bytes") (by kernel_rfl) ?_)
 exact nY hh Bl Ki (by decide) (by decide) (by decide +kernel) fun e h' tk k O=>h e h' tk k
theorem jx (b:Array UInt8) (c:UInt8) (i:Nat):(b.extract i (i+1) == #[c])=decide (b[i]?=some c):=by
 rw[gm]
 congr 1
 apply propext
 constructor
 ·intro h
  have h2:(b.extract i (i+1))[0]?=some c:=by rw[h];rfl
  rw[Array.getElem?_extract] at h2
  split at h2
  ·simpa using h2
  ·contradiction
 ·intro h
  refine Exists.elim (Array.getElem?_eq_some_iff.mp h) fun hJ e=>?_
  apply Array.ext
  ·simp;lia
  ·intro k h1 h2
   have hk:k=0:=by simp at h2;lia
   subst hk
   simp[e]
theorem Kt (b:Array UInt8) (c:UInt8):(Builtin.Bytes.find? b #[c] 0 b.size).isSome=b.toList.contains c:=by
 unfold Builtin.Bytes.find?
 rw[Bool.eq_iff_iff,List.find?_isSome]
 simp only[List.contains_iff_mem]
 constructor
 ·rintro ⟨i,_,hi⟩
  have S4:(b.extract i (i+1) == #[c])=true:=hi
  rw[jx,decide_eq_true_eq] at S4
  exact Array.mem_toList_iff.mpr (Array.mem_of_getElem? S4)
 ·intro h
  obtain⟨i,hJ,e⟩:=Array.mem_iff_getElem.mp (Array.mem_toList_iff.mp h)
  refine⟨i,?_,?_⟩
  ·refine List.mem_map.mpr ⟨i,List.mem_range.mpr ?_,by simp⟩
   show i<b.size+1 - (0+1)
   lia
  ·show (b.extract i (i+1) == #[c])=true
   rw[jx,decide_eq_true_eq,Array.getElem?_eq_getElem hJ,e]
theorem mJ {x:Array UInt8}{c:Nat} (e:x.toList.map UInt8.toNat=[c]):∃ k:UInt8,x=#[k]/\k.toNat=c:=by
 obtain⟨l⟩:=x
 cases l with
 | nil=>cases e
 | cons k r=>cases r with
  | nil=>simp at e;exact⟨k,rfl,e⟩
  | cons _ _=>cases e
theorem rS {y:List UInt8}{k:UInt8}:(y.map UInt8.toNat).contains k.toNat=y.contains k:=by
 rw[Bool.eq_iff_iff,List.contains_iff_mem,List.contains_iff_mem,List.mem_map]
 constructor
 ·rintro ⟨a,h,e⟩;rw[<- UInt8.toNat_inj.mp e];exact h
 ·intro h;exact⟨k,h,rfl⟩
theorem Ku {base:Heap}{c:Nat}{l:List Nat}{x y:Array UInt8}{t u:Tok}{Q E:Value->Shared->Prop} (hh:cy A s.heap) (e1:x.toList.map UInt8.toNat=[c]) (e2:y.toList.map UInt8.toNat=l)
  (h:∀ h' tk,Kept base s.heap h'->Q (.bool (l.contains c)) { s with heap:=h',toks:=tk }):wpAny (model prog w) A (compareOp .In (.bytes x t) (.bytes y u)) Q E s:=by
 refine Exists.elim (mJ e1) fun k zz=>aB zz fun av gQ=>?_;clear zz;subst av;subst gQ
 subst e2
 show wpAny _ _ (do return .bool (<- contains (.bytes y u) (.bytes #[k] t))) Q E s
 refine wpAny_bind (wpAny_contains_slot (typeIs_bytes s y u) FB.slot_bytes_contains (wpAny_call_entry FB.slot_bytes_contains (typeIs_bytes s y u) FB.entry_bytes_contains ?_ (FB.args_bytes_contains_2 _ _)))
 show wpAny _ _ (Builtin.Bytes.containsIn "bytes.__contains__" (.bytes y u) (.bytes #[k] t) >>= fun r=>ret (.bool r)) _ _ s
 refine wpAny_bind ?_
 refine wpAny_bind (wpAny_attempt (ta (base:=base) (A:=A.in1) hh fun e h' tk kp=>?_))
 refine wpAny_bind (wpAny_of_eq KBy.buffer_eq ?_)
 refine wpAny_bind (wpAny_of_eq KBy.buffer_eq ?_)
 refine wpAny_bind (wpAny_rule (wpAny_pure (wpAny_pure ⟨_,rfl,wpAny_pure (wpAny_pure ?_)⟩)))
 rw[Kt,<- rS]
 exact h h' tk kp
theorem uI {y:V} (h:y.isNone=true):y=.none:=by cases y<;>first | rfl | contradiction
theorem Qh {x y:V} (h:y.isNone=false):pE .is x y=.stuck/\pE .lO x y=.stuck:=by cases y<;>first | (contradiction;done) | (cases x<;>exact⟨rfl,rfl⟩)
theorem is_none {x:V}:pE .is x .none=.ok (.bool x.isNone)/\pE .lO x .none=.ok (.bool !x.isNone):=by cases x<;>exact⟨rfl,rfl⟩
set_option tactic.hygienic true in
theorem Kv (hh:cy A s.heap) (hu:A.units+100<cLine) (op:PH) {x y:V}{a b:Value} (rx:Rep (seen X s.heap) x a) (ry:Rep (seen X s.heap) y b) :
  Ev prog w base cl A X true (compareOp op.op a b) s (pE op x y):=by
 have ok:∀ {t:Sem Value}{k:Bool},(∀ Q E:Value->Shared->Prop,Q (.bool k) s->wpAny (model prog w) A t Q E s)->Ev prog w base cl A X true t s (.ok (.bool k)):=
  fun h=>Ev.flat (fun O O O=>trivial) fun Q E hQ=>h Q E (hQ _ _ (et _))
 cases op
 ·show Ev prog w base cl A X true _ s ((V.eq x y).bind fun k=>.ok (.bool k))
  cases e:V.eq x y with
  | ok k=>exact ok fun Q E h=>Ut hu e rx ry h
  | exc _=>exact (uH e).elim
  | stuck=>exact Ev.stuck
 ·show Ev prog w base cl A X true _ s ((V.eq x y).bind fun k=>.ok (.bool !k))
  cases e:V.eq x y with
  | ok k=>exact ok fun Q E h=>Uu hu e rx ry h
  | exc _=>exact (uH e).elim
  | stuck=>exact Ev.stuck
 ·cases x<;>(try exact Ev.stuck)<;>cases y<;>try exact Ev.stuck
  refine aP rx fun t=>?_
  refine aP ry fun u=>?_
  exact ok fun Q E h=>PyProof.Rows.lt_int h
 ·cases x<;>(try exact Ev.stuck)<;>cases y<;>try exact Ev.stuck
  refine aP rx fun t=>?_
  refine aP ry fun u=>?_
  exact ok fun Q E h=>PyProof.Rows.le_int h
 ·cases x<;>(try exact Ev.stuck)<;>cases y<;>try exact Ev.stuck
  refine aP rx fun t=>?_
  refine aP ry fun u=>?_
  exact ok fun Q E h=>PyProof.Rows.gt_int h
 ·cases x<;>(try exact Ev.stuck)<;>cases y<;>try exact Ev.stuck
  refine aP rx fun t=>?_
  refine aP ry fun u=>?_
  exact ok fun Q E h=>PyProof.Rows.ge_int h
 ·cases hy:y.isNone with
  | false=>rw[(Qh hy).1];exact Ev.stuck
  | true=>
  obtain rfl:=uI hy
  refine mG ry ?_
  rw[is_none.1]
  refine ok fun Q E h=>?_
  cases x with
  | none=>refine mG rx ?_;exact wpAny_is_self rfl h
  | _=>exact PyProof.Rows.is_none_ne (o1 rx (by intro q;contradiction)) h
 ·cases hy:y.isNone with
  | false=>rw[(Qh hy).2];exact Ev.stuck
  | true=>
  obtain rfl:=uI hy
  refine mG ry ?_
  rw[is_none.2]
  refine ok fun Q E h=>?_
  cases x with
  | none=>refine mG rx ?_;exact wpAny_isNot_self rfl h
  | _=>exact PyProof.Rows.isnot_none_ne (o1 rx (by intro q;contradiction)) h
 ·cases x<;>try exact Ev.stuck
  rename_i l
  cases l with
  | nil=>exact Ev.stuck
  | cons c l=>
  cases l with
  | cons _ _=>exact Ev.stuck
  | nil=>
  cases y<;>try exact Ev.stuck
  refine aT rx fun x t e1 O=>?_
  refine aT ry fun y u e2 O=>?_
  exact Ev.val fun Q E hQ=>Ku hh e1 e2 fun h' tk k=>hQ _ _ _ k (et _) fun O=>trivial
end
theorem Bx:firstArgMember (.type "StopIteration") []=pure .none:=by first | rfl | (simp only[firstArgMember];rfl)
section
variable {prog:Program}{w:World}{base:Heap}{A:Around}{E:Value->Shared->Prop}{s:Shared}
theorem cy.touch {h h':Heap}{it:Addr}{o:Obj}{vs:Array Value} (x:cy A h) (ho:h.get? it=some o) (hd:o.data=.fields vs) (hz:vs.size<=2) (k:∀ b,b≠it->h'.get? b=h.get? b):cy A h':=by
 rcases x with x | ⟨a,n,x,c⟩
 ·exact .inl x
 ·refine .inr ⟨a,n,x,c.keeps fun m b ob O cb eb O O=>(k b fun q=>?_).trans eb⟩
  subst q
  refine eA cb.get fun o' Zv v' zz=>zl zz fun e' O O kx h2 O=>?_
  rw[ho] at e';obtain rfl:=Option.some.inj e'
  rw[hd] at kx;obtain rfl:=Data.fields.inj kx
  have:=(Array.getElem?_eq_some_iff.mp h2).1
  omega
theorem rT {α:Type}{it:Addr}{ai:Heap}{Q:Option Value->Shared->Prop}{Q':α->Shared->Prop} (hh:cy A ai) (hb:Heap.ExtBut it s.heap ai)
  (hQ:∀ h',Heap.ExtBut it s.heap h'->Q none { s with heap:=h' }) :
  wpAny (model prog w) A.in1 (do let e <- newExc (.type "StopIteration") [];raiseNew e:Sem α) Q'
   (fun e s'=>wpAny (model prog w) A (do if <- isInstance e (.type "StopIteration") then pure none else throw e:Sem (Option Value)) Q E s') { s with heap:=ai }:=by
 refine wpAny_bind (uE Bx rfl (by decide) fun h' e t hk hn he=>?_)
 refine jq (base:=s.heap) (h₀:=ai) (s:={ s with heap:=h' }) (A:=A.in1) hh (.of_keeps hk) he rfl (by simp) (by simp) rfl rfl rfl hn fun L8 S0 hx=>?_
 obtain⟨_,_,oe,_,e1,e2,_⟩:=hx
 refine wpAny_bind (wpAny_isInstance (T:="StopIteration") (b:=true) ⟨oe,e1,e2⟩ isSubtype_stop ?_)
 refine wpAny_pure (hQ _ fun b ob lL q=>?_)
 have Uv:=hb b ob lL q
 exact S0 b ob (fun z=>by rw[z,hn] at Uv;contradiction) (hk b ob Uv)
theorem n8 {α:Type}{tag:String}{it:Addr}{o:Obj}{vs:Array Value}{x:Value}{Q:Option Value->Shared->Prop}{Q':α->Shared->Prop} (hh:cy A s.heap) (ho:s.heap.get? it=some o) (hd:o.data=.fields vs) (h0:0<vs.size) (hz:vs.size<=2)
  (hQ:∀ h',Heap.ExtBut it s.heap h'->Q none { s with heap:=h' }) :
  wpAny (model prog w) A.in1 (do rule tag;setField (.ref it) 0 x;let e <- newExc (.type "StopIteration") [];raiseNew e:Sem α) Q'
   (fun e s'=>wpAny (model prog w) A (do if <- isInstance e (.type "StopIteration") then pure none else throw e:Sem (Option Value)) Q E s') s:=
 wpAny_bind (wpAny_rule (wpAny_bind (wpAny_setField ho hd h0 (rT (hh.touch ho hd hz fun b hb=>Heap.get?_update_other _ _ (Ne.symm hb)) (Heap.SameBut.update ..).extBut hQ))))
theorem kF {it l:Addr}{i:Nat}{items:Array Value}{Q:Option Value->Shared->Prop} (hh:cy A s.heap)
  (hit:s.heap.IsListIter it l i) (hl:s.heap.IsList l items) (hx:items[i]?=none)
  (hQ:∀ h',Heap.ExtBut it s.heap h'->Q none { s with heap:=h' }):wpAny (model prog w) A (pyNext (.ref it)) Q E s:=by
 refine Exists.elim (id hit) fun o zz=>b5 zz fun ho hc hd=>?_
 obtain⟨ol,Uw,_,nl,SW⟩:=hl
 refine wpAny_bind (wpAny_attempt (wpAny_callSpecial?_slot (name:=Str.ofString "__next__") hit.typeIs slot_listiter_next
  (wpAny_call_entry slot_listiter_next hit.typeIs entry_listiter_next ?_ (args_listiter_next _))))
 show wpAny _ _ (field (.ref it) 0 >>= _) _ _ s
 refine wpAny_bind (wpAny_field ho hd (x:=.ref l) rfl ?_)
 show wpAny _ _ (if (Value.ref l == Value.none)=true then _ else _) _ _ s
 rw[if_neg (show ¬ ((Value.ref l == Value.none)=true) from Bool.false_ne_true)]
 show wpAny _ _ (field (.ref it) 1 >>= _) _ _ s
 refine wpAny_bind (wpAny_field ho hd (x:=.int i 0) rfl ?_)
 show wpAny _ _ (seqItems? (.ref l) >>= _) _ _ s
 refine wpAny_bind (wpAny_seqItems Uw SW ?_)
 simp only[Int.toNat_natCast,hx]
 exact n8 hh ho hd (by simp) (by simp) hQ
theorem next_tuple_end {it t:Addr}{i:Nat}{items:Array Value}{Q:Option Value->Shared->Prop} (hh:cy A s.heap)
  (hit:s.heap.IsTupleIter it t i) (ht:s.heap.IsTuple t items) (hx:items[i]?=none)
  (hQ:∀ h',Heap.ExtBut it s.heap h'->Q none { s with heap:=h' }):wpAny (model prog w) A (pyNext (.ref it)) Q E s:=by
 refine Exists.elim (id hit) fun o zz=>b5 zz fun ho hc hd=>?_
 obtain⟨ol,Uw,_,nl,SW⟩:=ht
 refine wpAny_bind (wpAny_attempt (wpAny_callSpecial?_slot (name:=Str.ofString "__next__") hit.typeIs PySem.F.slot_tuple_iterator_next
  (wpAny_call_entry PySem.F.slot_tuple_iterator_next hit.typeIs PySem.F.entry_tuple_iterator_next ?_ (PySem.F.args_tuple_iterator_next_1 _))))
 show wpAny _ _ (field (.ref it) 0 >>= _) _ _ s
 refine wpAny_bind (wpAny_field ho hd (x:=.ref t) rfl ?_)
 show wpAny _ _ (if (Value.ref t == Value.none)=true then _ else _) _ _ s
 rw[if_neg (show ¬ ((Value.ref t == Value.none)=true) from Bool.false_ne_true)]
 show wpAny _ _ (field (.ref it) 1 >>= _) _ _ s
 refine wpAny_bind (wpAny_field ho hd (x:=.int i 0) rfl ?_)
 show wpAny _ _ (seqItems? (.ref t) >>= _) _ _ s
 refine wpAny_bind (wpAny_seqItems Uw SW ?_)
 simp only[Int.toNat_natCast,hx]
 exact n8 hh ho hd (by simp) (by simp) hQ
theorem rU {it:Addr}{b:Array UInt8}{t:Tok}{i:Nat}{Q:Option Value->Shared->Prop} (hh:cy A s.heap) (hit:KBw.IsBytesIter s.heap it b t i) (hx:b[i]?=none)
  (hQ:∀ h',Heap.ExtBut it s.heap h'->Q none { s with heap:=h' }):wpAny (model prog w) A (pyNext (.ref it)) Q E s:=by
 refine Exists.elim (id hit) fun o zz=>b5 zz fun ho hc hd=>?_
 refine wpAny_bind (wpAny_attempt (wpAny_callSpecial?_slot (name:=Str.ofString "__next__") (KBw.iter_typeIs hit) KBw.slot_next
  (wpAny_call_entry KBw.slot_next (KBw.iter_typeIs hit) KBw.entry_next ?_ (KBw.args_next _))))
 show wpAny _ _ (field (.ref it) 0 >>= _) _ _ s
 refine wpAny_bind (wpAny_field ho hd (x:=.bytes b t) rfl ?_)
 show wpAny _ _ (if (Value.bytes b t == Value.none)=true then _ else _) _ _ s
 rw[if_neg (show ¬ ((Value.bytes b t == Value.none)=true) from Bool.false_ne_true)]
 show wpAny _ _ (field (.ref it) 1 >>= _) _ _ s
 refine wpAny_bind (wpAny_field ho hd (x:=.int i 0) rfl ?_)
 refine wpAny_bind (wpAny_of_eq (a:=b) rfl ?_)
 simp only[Int.toNat_natCast,hx]
 exact n8 hh ho hd (by simp) (by simp) hQ
theorem wj {it:Addr}{x:Str}{t:Tok}{i:Nat}{Q:Option Value->Shared->Prop} (hh:cy A s.heap) (hit:s.heap.IsStrIter it "str_ascii_iterator" x t i) (hx:x.cps[i]?=none)
  (hQ:∀ h',Heap.ExtBut it s.heap h'->Q none { s with heap:=h' }):wpAny (model prog w) A (pyNext (.ref it)) Q E s:=by
 refine Exists.elim (id hit) fun o zz=>b5 zz fun ho hc hd=>?_
 refine wpAny_bind (wpAny_attempt (wpAny_callSpecial?_slot (name:=Str.ofString "__next__") hit.typeIs PySem.F.slot_str_ascii_iterator_next
  (wpAny_call_entry PySem.F.slot_str_ascii_iterator_next hit.typeIs PySem.F.entry_str_ascii_iterator_next ?_ (PySem.F.args_str_ascii_iterator_next_1 _))))
 show wpAny _ _ (field (.ref it) 0 >>= _) _ _ s
 refine wpAny_bind (wpAny_field ho hd (x:=.str x t) rfl ?_)
 show wpAny _ _ (field (.ref it) 1 >>= _) _ _ s
 refine wpAny_bind (wpAny_field ho hd (x:=.int i 0) rfl ?_)
 simp only[Int.toNat_natCast,hx]
 refine wpAny_bind (wpAny_rule (wpAny_bind (wpAny_setField ho hd (by simp) (wpAny_bind (wpAny_letGo ?_)))))
 exact rT (hh.touch ho hd (by simp) fun b hb=>Heap.get?_update_other _ _ (Ne.symm hb)) (Heap.SameBut.update ..).extBut hQ
theorem rV {it:Addr}{x left step:Int}{Q:Option Value->Shared->Prop} (hh:cy A s.heap) (hit:IsRangeIter s.heap it x left step) (Ux:left<=0)
  (hQ:∀ h',Heap.ExtBut it s.heap h'->Q none { s with heap:=h' }):wpAny (model prog w) A (pyNext (.ref it)) Q E s:=by
 have hT:s.TypeIs (.ref it) "range_iterator":=⟨_,hit,rfl⟩
 refine wpAny_bind (wpAny_attempt (wpAny_callSpecial?_slot (name:=Str.ofString "__next__") hT PySem.F.slot_range_iterator_next
  (wpAny_call_entry PySem.F.slot_range_iterator_next hT PySem.F.entry_range_iterator_next ?_ (PySem.F.args_range_iterator_next_1 _))))
 show wpAny _ _ (field (.ref it) 0 >>= _) _ _ s
 refine wpAny_bind (wpAny_field hit rfl (x:=rawInt x) rfl ?_)
 show wpAny _ _ (field (.ref it) 1 >>= _) _ _ s
 refine wpAny_bind (wpAny_field hit rfl (x:=rawInt left) rfl ?_)
 show wpAny _ _ (field (.ref it) 2 >>= _) _ _ s
 refine wpAny_bind (wpAny_field hit rfl (x:=rawInt step) rfl ?_)
 show wpAny _ _ (if left<=0 then _ else _) _ _ s
 rw[if_pos Ux]
 refine wpAny_bind (wpAny_rule ?_)
 refine wpAny_bind ?_
 exact rT (s:=s) hh (Heap.ExtBut.refl it s.heap) hQ
end
inductive bh (h:Heap) (X:Addr->Prop) (it:Addr):List V->Prop
 | list {l:Addr}{i:Nat}{items:Array Value}{ds:List V}:h.IsListIter it l i->h.IsList l items->¬ X l->ay (seen X h) ds (items.toList.drop i)->bh h X it ds
 | str {x:PySem.Str}{t:Tok}{i:Nat}:h.IsStrIter it "str_ascii_iterator" x t i->bh h X it ((x.cps.toList.drop i).map fun c=>.str [c])
 | bytes {b:Array UInt8}{t:Tok}{i:Nat}:KBw.IsBytesIter h it b t i->bh h X it ((b.toList.drop i).map fun c=>.int (c.toNat:Int))
 | range {x step:Int}{n:Nat}:IsRangeIter h it x n step->bh h X it ((List.range n).map fun (k:Nat)=>.int (x+step*(k:Int)))
structure iP (it:Addr) (h h':Heap):Prop where
 other:∀ b o,b≠it->h.get? b=some o->h'.get? b=some o
 here:∃ o vs,h.get? it=some o/\o.data=.fields vs
theorem iP.kept {base h₀ h h':Heap}{it:Addr} (t:iP it h h') (k:Kept base h₀ h) (n:h₀.get? it=none):Kept base h₀ h':=fun b o e=>by
 have hb:b≠it:=fun q=>by rw[q,n] at e;contradiction
 rcases k b o e with e' | ⟨a,c,d,sl,e'⟩
 ·exact .inl (t.other b o hb e')
 ·exact .inr ⟨a,c,d,sl,t.other b _ hb e'⟩
theorem iP.seen {h h':Heap}{it:Addr} (t:iP it h h') {X:Addr->Prop}:∀ a o,Mine.Internal.seen X h a o->uB o->Mine.Internal.seen X h' a o:=fun a o e s=>⟨t.other a o (fun q=>by
 refine bT t.here fun o' vs zz=>aB zz fun e' d=>?_
 have e1:=e.1
 rw[q,e'] at e1;injection e1 with e1;subst e1
 rcases s with ⟨_,_,c⟩ | ⟨_,_,c⟩<;>(rw[d] at c;contradiction)) e.1,e.2⟩
theorem iP.rep {h h':Heap}{it:Addr} (t:iP it h h') {X:Addr->Prop}{d:V}{v:Value} (r:Rep (Mine.Internal.seen X h) d v):Rep (Mine.Internal.seen X h') d v:=r.mono t.seen
theorem iP.j5 {h h':Heap}{it:Addr} (t:iP it h h') {X:Addr->Prop}{d:List V}{v:List Value} (r:ay (Mine.Internal.seen X h) d v):ay (Mine.Internal.seen X h') d v:=r.mono t.seen
theorem bh.here {h:Heap}{X:Addr->Prop}{it:Addr}{ds:List V} (x:bh h X it ds):∃ o vs,h.get? it=some o/\o.data=.fields vs:=by
 cases x with
 | list y=>refine Exists.elim y fun o zz=>b5 zz fun e c d=>?_;exact⟨o,_,e,d⟩
 | str y=>refine Exists.elim y fun o zz=>b5 zz fun e c d=>?_;exact⟨o,_,e,d⟩
 | bytes y=>refine Exists.elim y fun o zz=>b5 zz fun e c d=>?_;exact⟨o,_,e,d⟩
 | range y=>exact⟨_,_,y,rfl⟩
theorem bh.kept {h h':Heap}{X:Addr->Prop}{it:Addr}{ds:List V} (x:bh h X it ds) (k:∀ a o,h.get? a=some o->(∃ vs,o.data=.fields vs)∨(uB o/\¬ X a)->h'.get? a=some o):bh h' X it ds:=by
 cases x with
 | list y l n r=>
  refine Exists.elim y fun o zz=>b5 zz fun e c d=>?_
  obtain⟨o',e',c',n',d'⟩:=l
  exact .list ⟨o,k _ _ e (.inl ⟨_,d⟩),c,d⟩ ⟨o',k _ _ e' (.inr ⟨.inl ⟨_,_,d'⟩,n⟩),c',n',d'⟩ n (r.mono fun a o e s=>⟨k _ _ e.1 (.inr ⟨s,e.2⟩),e.2⟩)
 | str y=>refine Exists.elim y fun o zz=>b5 zz fun e c d=>?_;exact .str ⟨o,k _ _ e (.inl ⟨_,d⟩),c,d⟩
 | bytes y=>refine Exists.elim y fun o zz=>b5 zz fun e c d=>?_;exact .bytes ⟨o,k _ _ e (.inl ⟨_,d⟩),c,d⟩
 | range y=>exact .range (k _ _ y (.inl ⟨_,rfl⟩))
theorem Kept.iter {base h h':Heap} (k:Kept base h h') {X:Addr->Prop}{it:Addr}{ds:List V} (x:bh h X it ds):bh h' X it ds:=x.kept fun a o e s=>by
 rcases k a o e with e' | ⟨_,c,d,_⟩
 ·exact e'
 ·rcases s with ⟨vs,q⟩ | ⟨q,_⟩
  ·exact absurd q (d vs)
  ·exact absurd c (b7 q)
theorem Kept.extBut {base h₀ h h':Heap}{a:Addr} (k:Kept base h₀ h) (n:h₀.get? a=none) (t:Heap.ExtBut a h h'):Kept base h₀ h':=fun b o e=>by
 have hb:b≠a:=fun q=>by rw[q,n] at e;contradiction
 rcases k b o e with e' | ⟨x,c,d,sl,e'⟩
 ·exact .inl (t b o hb e')
 ·exact .inr ⟨x,c,d,sl,t b _ hb e'⟩
theorem bh.less {h:Heap}{X Y:Addr->Prop}{it:Addr}{ds:List V} (x:bh h X it ds) (k:∀ a,Y a->X a):bh h Y it ds:=by
 cases x with
 | list y l n r=>exact .list y l (fun z=>n (k _ z)) (r.less k)
 | str y=>exact .str y
 | bytes y=>exact .bytes y
 | range y=>exact .range y
section
variable {prog:Program}{w:World}{A:Around}{X:Addr->Prop}{s:Shared}{E:Value->Shared->Prop}
theorem yF {it:Addr}{Q:Option Value->Shared->Prop} (hh:cy A s.heap) (x:bh s.heap X it []) (hQ:∀ h',iP it s.heap h'->Q none { s with heap:=h' }):wpAny (model prog w) A (pyNext (.ref it)) Q E s:=by
 have hr:=x.here
 generalize hd:([]:List V)=ds at x
 cases x with
 | list y l n r=>
  subst hd
  refine kF hh y l ?_ fun h' e=>hQ h' ⟨e,hr⟩
  have:=List.drop_eq_nil_iff.mp r
  simp at this ⊢;exact this
 | str y=>
  refine wj hh y ?_ fun h' e=>hQ h' ⟨e,hr⟩
  have:=List.map_eq_nil_iff.mp hd.symm
  have:=List.drop_eq_nil_iff.mp this
  simp at this ⊢;exact this
 | bytes y=>
  refine rU hh y ?_ fun h' e=>hQ h' ⟨e,hr⟩
  have:=List.map_eq_nil_iff.mp hd.symm
  have:=List.drop_eq_nil_iff.mp this
  simp at this ⊢;exact this
 | range y=>
  have:=List.map_eq_nil_iff.mp hd.symm
  rw[List.range_eq_nil] at this
  subst this
  exact rV hh y (by simp) fun h' e=>hQ h' ⟨e,hr⟩
theorem drop_cons {α:Type}{l r:List α}{i:Nat}{x:α} (e:l.drop i=x::r):l[i]?=some x/\l.drop (i+1)=r:=by
 constructor
 ·have:=congrArg List.head? e
  simpa [List.head?_drop] using this
 ·have:=congrArg List.tail e
  simpa [List.tail_drop] using this
theorem uJ {it:Addr}{d:V}{ds:List V}{Q:Option Value->Shared->Prop} (x:bh s.heap X it (d::ds))
  (hQ:∀ h' tk v,iP it s.heap h'->bh h' X it ds->Rep (seen X h') d v->Q (some v) { s with heap:=h',toks:=tk }):wpAny (model prog w) A (pyNext (.ref it)) Q E s:=by
 have hr:=x.here
 generalize hd:d::ds=l at x
 cases x with
 | @list l i items _ y hl n r=>
  subst hd
  refine bT r fun v q zz=>b5 zz fun e r1 r2=>?_
  refine aB (drop_cons e) fun e1 e2=>?_
  have hit:=y
  refine wpAny_pyNext_list_item y hl (x:=v) (by rw[<- Array.getElem?_toList];exact e1) fun h' y' hs=>?_
  have t:iP it s.heap h':=⟨hs.extBut,hr⟩
  have aq:l≠it:=fun q=>by
   refine Exists.elim hit fun o zz=>b5 zz fun a b c=>?_
   refine Exists.elim hl fun o' zz=>b5 zz fun a' b' c'=>?_
   rw[q,a] at a';injection a' with a';subst a';exact absurd (b.symm.trans b') (by simp)
  exact hQ h' _ v t (.list y' (hl.extBut hs.extBut aq) n (by rw[e2];exact t.j5 r2)) (t.rep r1)
 | @str x t i y=>
  obtain⟨c,hc⟩:∃ c,x.cps.toList.drop i=c::x.cps.toList.drop (i+1):=by
   cases q:x.cps.toList.drop i with
   | nil=>rw[q] at hd;contradiction
   | cons c r=>exact⟨c,by rw[(drop_cons q).2]⟩
  rw[hc,List.map_cons] at hd
  refine aB (List.cons.inj hd) fun av gQ=>?_;subst av;subst gQ
  refine wpAny_pyNext_ascii_item y (c:=c) (by rw[<- Array.getElem?_toList];exact (drop_cons hc).1) fun h' y' hs=>hQ h' _ _ ⟨hs.extBut,hr⟩ (.str y') (c6 _ rfl (by simp))
 | @bytes b t i y=>
  obtain⟨c,hc⟩:∃ c,b.toList.drop i=c::b.toList.drop (i+1):=by
   cases q:b.toList.drop i with
   | nil=>rw[q] at hd;contradiction
   | cons c r=>exact⟨c,by rw[(drop_cons q).2]⟩
  rw[hc,List.map_cons] at hd
  refine aB (List.cons.inj hd) fun av gQ=>?_;subst av;subst gQ
  refine KBw.next_item y (c:=c) (by rw[<- Array.getElem?_toList];exact (drop_cons hc).1) fun h' y' hs=>hQ h' _ _ ⟨hs.extBut,hr⟩ (.bytes y') (bB _ _)
 | @range a step n y=>
  cases n with
  | zero=>contradiction
  | succ n=>
   rw[List.range_succ_eq_map,List.map_cons,List.map_map] at hd
   refine aB (List.cons.inj hd) fun av gQ=>?_;subst av;subst gQ
   refine wpAny_pyNext_range_item y (by lia) fun h' y' hs=>?_
   have e:(((n+1:Nat):Int) - 1)=(n:Int):=by lia
   rw[e] at y'
   refine hQ h' _ _ ⟨hs.extBut,hr⟩ ?_ (by simpa using bB _ _)
   have:=bh.range (X:=X) y'
   refine cast (congrArg _ ?_) this
   refine List.map_congr_left fun k O=>?_
   simp[Int.mul_add]
   lia
set_option tactic.hygienic true in
theorem Kw {it:V}{v:Value}{ds:List V}{Q:Value->Shared->Prop} (e:qm it=.ok ds) (r:Rep (seen X s.heap) it v)
  (hQ:∀ o,bh (s.heap.push o) X s.heap.objs.size ds->o.isFreed=false->Q (.ref s.heap.objs.size) { s with heap:=s.heap.push o }):wpAny (model prog w) A (pyIter v) Q E s:=by
 cases it with
 | list xs=>
  rw[Ip] at e
  injection e with e;subst e
  refine dQ r fun a dd sl vs n hX ha hl rl=>?_
  refine wpAny_pyIter_list (bF ha) (hQ _ ?_ rfl)
  have k:=Kept.push s.heap s.heap { cls:=.type "list_iterator",data:=.fields #[.ref a,.int (0:Nat) 0] }
  exact .list ⟨_,Heap.get?_push_size _ rfl,rfl,rfl⟩ (bF (Heap.get?_push_of_some _ ha)) hX (k.j5 rl)
 | str x=>
  rw[w6] at e
  unfold R.guard at e
  split at e
  ·rename_i ha
   injection e with e;subst e
   refine cH r fun y t gQ O=>?_;subst gQ
   refine wpAny_pyIter_ascii ?_ (hQ _ ?_ rfl)
   ·rw[<- Array.all_toList];exact ha
   ·have:bh (s.heap.push { cls:=.type "str_ascii_iterator",data:=.fields #[.str y t,.int (0:Nat) 0] }) X s.heap.objs.size _:=.str (i:=0) ⟨_,Heap.get?_push_size _ rfl,rfl,rfl⟩
    simpa using this
  ·contradiction
 | bytes x=>
  rw[Iq] at e
  injection e with e;subst e
  refine aT r fun y t gQ O=>?_;subst gQ
  refine KBw.pyIter_bytes (hQ _ ?_ rfl)
  have:bh (s.heap.push { cls:=.type "bytes_iterator",data:=.fields #[.bytes y t,.int (0:Nat) 0] }) X s.heap.objs.size _:=.bytes (i:=0) ⟨_,Heap.get?_push_size _ rfl,rfl,rfl⟩
  simpa [Function.comp_def] using this
 | _=>contradiction
theorem rW {a b:Int}{st:Nat} (gg:st=1∨st=2):Builtin.Range.rangeSize a b (st:Int)=(((b - a).toNat+st - 1) / st:Nat):=by
 unfold Builtin.Range.rangeSize
 rcases gg with rfl | rfl
 ·simp only[show ((1:Nat):Int) > 0 by decide,if_true]
  split<;>lia
 ·simp only[show ((2:Nat):Int) > 0 by decide,if_true]
  split<;>lia
theorem fJ {i:Int} (h:i.natAbs<=4000000):Builtin.Range.rangeFitsLong i=true:=by
 unfold Builtin.Range.rangeFitsLong
 rw[Bool.and_eq_true,decide_eq_true_eq,decide_eq_true_eq]
 have h1:i<=4000000:=Int.le_trans Int.le_natAbs (Int.ofNat_le.mpr h)
 have h2:-i<=4000000:=Int.le_trans Int.le_natAbs (Int.ofNat_le.mpr (by rw[Int.natAbs_neg];exact h))
 exact⟨Int.le_trans (by decide) (Int.neg_le_of_neg_le h2),Int.lt_of_le_of_lt h1 (by decide)⟩
theorem p8 {a b:Int}{m n:Nat} (h:a.natAbs<=m) (k:b.natAbs<=n):(a+b).natAbs<=m+n:=Nat.le_trans (Int.natAbs_add_le a b) (Nat.add_le_add h k)
theorem Dj {a b:Int}{m n:Nat} (h:a.natAbs<=m) (k:b.natAbs<=n):(b - a).natAbs<=n+m:=by
 rw[Int.sub_eq_add_neg]
 exact p8 k (by rw[Int.natAbs_neg];exact h)
theorem toNat_abs (i:Int):i.toNat<=i.natAbs:=by
 cases i with
 | ofNat n=>exact Nat.le_refl _
 | negSucc n=>exact Nat.zero_le _
theorem yG {a b:Int}{st:Nat} (gg:st=1∨st=2) (ha:a.natAbs<=1000000) (hb:b.natAbs<=1000000):Builtin.Range.small a b st=true:=by
 have h2:st<=2:=by rcases gg with rfl | rfl<;>decide
 have hs:((st:Int)).natAbs<=2:=h2
 have hz:(((b - a).toNat+st - 1) / st)<=4000000:=Nat.le_trans (Nat.div_le_self _ _) (Nat.le_trans (Nat.sub_le _ _) (Nat.le_trans (Nat.add_le_add (Nat.le_trans (toNat_abs _) (Dj ha hb)) h2) (by decide)))
 unfold Builtin.Range.small
 rw[rW gg,fJ (Nat.le_trans ha (by decide)),fJ (Nat.le_trans hb (by decide)),fJ (Nat.le_trans hs (by decide)),fJ (i:=((_:Nat):Int)) hz,
  fJ (Nat.le_trans (p8 hb (Dj (m:=1) (by decide) hs)) (by decide)),fJ (Nat.le_trans (p8 hb (p8 (n:=1) hs (by decide))) (by decide)),ite_self,Bool.or_true]
 rfl
theorem lB {r:Addr}{a b:Int}{st:Nat}{t u z:Tok}{Q:Value->Shared->Prop} (hr:IsRange s.heap r a b st t u z) (gg:st=1∨st=2) (ha:a.natAbs<=1000000) (hb:b.natAbs<=1000000)
  (hQ:∀ o,bh (s.heap.push o) X s.heap.objs.size (ig a b st)->o.isFreed=false->Q (.ref s.heap.objs.size) { s with heap:=s.heap.push o }):wpAny (model prog w) A (pyIter (.ref r)) Q E s:=by
 refine wpAny_pyIter_range hr (yG gg ha hb) (hQ _ ?_ rfl)
 rw[rW gg]
 exact .range (Heap.get?_push_size _ rfl)
end
structure Wd (K:Frag) (base:Heap):Prop where
 jy:K.In base
 top:∃ (p:Program) (loose:List PySem.Str) (mg mb:PySem.Str->Option Value),TopRead p loose mg mb base
section
variable (base:Heap) (n:Nat)
structure At (A:Around) (X:Addr->Prop) (own:Owner) (sc:Scope) (j:List (PySem.Str × Nat)) (ec:Env) (J:Ρ) (h:Heap):Prop where
 rel:Oj h X own ec j J
 cx:Cx base A h n
 ge:Ge ec
 scope:ec.scope=sc
 low:ni X h
 new:∀ a,X a->base.get? a=none
end
theorem At.kept {base:Heap}{n:Nat}{A:Around}{X:Addr->Prop}{own:Owner}{sc:Scope}{j:List (PySem.Str × Nat)}{ec:Env}{J:Ρ}{h h':Heap} (x:At base n A X own sc j ec J h) (k:Kept base h h'):At base n A X own sc j ec J h':=
 ⟨x.rel.kept k,x.cx.kept k,x.ge,x.scope,x.low.kept k,x.new⟩
section
variable (prog:Program) (w:World) (base:Heap) (cl:dB->Value) (D:Fn->List V->R V) (n:Nat)
def wk (fa:Fn->Addr):Prop:=∀ (A:Around) (X:Addr->Prop) (s:Shared) (f:Fn) (ds:List V) (vs:List Value),Cx base A s.heap n->ni X s.heap->(∀ a,X a->base.get? a=none)->ay (seen X s.heap) ds vs->
 kE prog w base cl A X false (call (.ref (fa f)) vs []) s (D f ds)
def aL (fr:Bool) (sc:Scope) (j:List (PySem.Str × Nat)) (e:Expr) (p:PE):Prop:=
 ∀ (A:Around) (X:Addr->Prop) (ec:Env) (J:Ρ) (s:Shared),At base n A X none sc j ec J s.heap->kE prog w base cl A X fr (eval e ec) s (ak D p J)
def gC (sc:Scope) (j:List (PySem.Str × Nat)) (e:Expr) (p:PE):Prop:=
 ∀ (A:Around) (X:Addr->Prop) (ec:Env) (J:Ρ) (s:Shared),At base n A X none sc j ec J s.heap->Ov prog w base cl A (isTrue e ec (eval e ec)) s ((ak D p J).bind V.truth)
def n9 (op:BoolOp) (sc:Scope) (j:List (PySem.Str × Nat)) (es:List Expr) (p:PE):Prop:=
 ∀ (A:Around) (X:Addr->Prop) (ec:Env) (J:Ρ) (s:Shared),At base n A X none sc j ec J s.heap->Ov prog w base cl A (allTrue op es ec) s ((ak D p J).bind V.truth)
def j7 (sc:Scope) (j:List (PySem.Str × Nat)) (es:List Expr) (ps:fZ):Prop:=
 ∀ (A:Around) (X:Addr->Prop) (ec:Env) (J:Ρ) (s:Shared) (pos:Pos),At base n A X none sc j ec J s.heap->WT prog w base cl A X (spliced (backTo pos (starEach es ec))) s (cS D ps J)
end
section
variable {prog:Program}{w:World}{base:Heap}{cl:dB->Value}{A:Around}{X:Addr->Prop}{s:Shared}{α:Type}
theorem jz {g:Addr->Obj->Prop}{d:V}{v:Value} (r:Rep g d v):RA prog w base cl A (truthy v) s d.truth:=by
 cases d with
 | none=>refine mG r ?_;exact .val fun Q E h=>PyProof.Rows.truthy_none (h _)
 | bool b=>refine iD r ?_;exact .val fun Q E h=>wpAny_truthy_bool (h _)
 | int i=>
  refine aP r fun t=>?_
  refine .val fun Q E h=>P.truthy_int ?_
  have e:(i != 0)=decide (i≠0):=by by_cases q:i=0<;>simp[q]
  rw[e];exact h _
 | str x=>
  refine cH r fun y t e hl=>?_
  refine .val fun Q E h=>P.truthy_str (by rw[str_len e];lia) ?_
  have e:((y.length:Int) != 0)=!x.isEmpty:=by rw[str_len e];cases x<;>simp;lia
  rw[e];exact h _
 | _=>exact .stuck
variable {D:Fn->List V->R V}{n:Nat}{sc:Scope}{j:List (PySem.Str × Nat)}{K:Frag}
theorem fV {A:Around}{n:Nat} (h:A.units+10*n<=9000):A.units+100<cLine:=Nat.lt_of_lt_of_le (show A.units+100<9101 by lia) (by decide)
theorem cst {fr:Bool}{e:Expr}{d:V} (h:∀ (A:Around) (X:Addr->Prop) (ec:Env) (s:Shared) (Q E:Value->Shared->Prop),(∀ v tk,Rep (seen X s.heap) d v->Q v { s with toks:=tk })->wpAny (model prog w) A (eval e ec) Q E s) (hd:∀ X h h' v,rI X h h' d v) :
  aL prog w base cl D n fr sc j e (.const d):=fun A X ec J s O=>(Ev.flat (fun O O O=>hd _ _ _ _) fun Q E hQ=>h A X ec s Q E hQ).g
theorem aL.int {fr:Bool}{i:Int}{k:Nat}{pos:Pos}:aL prog w base cl D n fr sc j (.Constant (.int i) k pos) (.const (.int i)):=
 cst (fun O O O O O O hQ=>wpAny_Constant_int (hQ _ _ (bB _ _))) fun O O O O=>trivial
theorem aL.RP {fr:Bool}{i aaH:Int}{k:Nat}{pos p:Pos} (e:aaH=-i:=by rfl):aL prog w base cl D n fr sc j (.UnaryOp .USub (.Constant (.int i) k pos) p) (.const (.int aaH)):=
 cst (fun O O O O O O hQ=>UnaryOp_ (wpAny_Constant_int (neg_int (hQ _ _ (e ▸ bB _ _))))) fun O O O O=>trivial
theorem aL.str {fr:Bool}{x:PySem.Str}{l:List Nat}{k:Nat}{pos:Pos} (e:x.cps.toList=l:=by rfl) (hl:l.length<=16777216:=by decide):aL prog w base cl D n fr sc j (.Constant (.str x) k pos) (.const (.str l)):=
 cst (fun O O O O O O hQ=>Constant_str (hQ _ _ (c6 _ e hl))) fun O O O O=>trivial
theorem aL.bool {fr:Bool}{b:Bool}{k:Nat}{pos:Pos}:aL prog w base cl D n fr sc j (.Constant (.bool b) k pos) (.const (.bool b)):=
 cst (fun O O O O O O hQ=>wpAny_Constant_bool (hQ _ _ (et _))) fun O O O O=>trivial
theorem aL.none {fr:Bool}{k:Nat}{pos:Pos}:aL prog w base cl D n fr sc j (.Constant .none k pos) (.const .none):=
 cst (fun O O O O O O hQ=>wpAny_Constant_none (hQ _ _ rN)) fun O O O O=>trivial
theorem aL.bin {fr f1 f2:Bool}{l r:Expr}{op:QG}{pos:Pos}{a b:PE}{o:Operator} (ho:o=op.op) (hl:aL prog w base cl D n f1 sc j l a) (hr:aL prog w base cl D n f2 sc j r b):aL prog w base cl D n fr sc j (.BinOp l o r pos) (.bin op a b):=by
 subst ho
 exact fun A X ec J s x=>kE.BinOp (hl A X ec J s x) (fun h' tk k=>hr A X ec J _ (x.kept k)) fun d e v u h' tk r1 r2 k=>by
  have:=RM (prog:=prog) (w:=w) (base:=base) (cl:=cl) (A:=A) (s:={ s with heap:=h',toks:=tk }) (x.low.kept k) op r1 r2
  cases fr
  ·exact this.weak.g
  ·exact this.g
theorem aL.cmp {fr f1 f2:Bool}{l r:Expr}{op:PH}{pos:Pos}{a b:PE}{o:CmpOp} (ho:o=op.op) (hm:behindInMarks o r=false) (hl:aL prog w base cl D n f1 sc j l a) (hr:aL prog w base cl D n f2 sc j r b):aL prog w base cl D n fr sc j (.Compare l [o] [r] pos) (.cmp op a b):=by
 subst ho
 exact fun A X ec J s x=>kE.Compare (hl A X ec J s x) hm (fun h' tk k=>hr A X ec J _ (x.kept k)) fun d e v u h' tk r1 r2 k=>by
  have x':=x.kept k
  have hu:=x'.cx.units
  have:=Kv (prog:=prog) (w:=w) (base:=base) (cl:=cl) (A:=A) (s:={ s with heap:=h',toks:=tk }) x'.cx.held (fV hu) op r1 r2
  cases fr
  ·exact this.weak.g
  ·exact this.g
theorem aL.not {fr f1:Bool}{e:Expr}{pos:Pos}{a:PE} (h:aL prog w base cl D n f1 sc j e a):aL prog w base cl D n fr sc j (.UnaryOp .Not e pos) (.not a):=fun A X ec J s x Q E p aq=>by
 refine Hj (h A X ec J s x _ _ ⟨fun d v h' tk e k rp O=>?_,p.ex.of⟩ (R.aN aq))
 have bP:=p.step (tk:=tk) e k
 have ao:=R.aW aq e
 exact (PySem.not_value (jz rp _ _ ⟨fun b aD bD bK k₂=>bP.ok _ _ aD bD (by rw[bK];rfl) k₂ (et _) fun O=>trivial,bP.ex.of⟩ (R.aN ao))).g
theorem aL.and {f1 f2:Bool}{e f:Expr}{pos:Pos}{a b:PE} (h:aL prog w base cl D n f1 sc j e a) (h':aL prog w base cl D n f2 sc j f b):aL prog w base cl D n false sc j (.BoolOp .And [e,f] pos) (.and a b):=fun A X ec J s x Q E p aq=>by
  refine RD (h A X ec J s x _ _ ⟨fun d v ai tk e k rp O=>?_,p.ex.of⟩ (R.aN aq))
  have bP:=p.step (tk:=tk) e k
  have ao:=R.aW aq e
  refine (jz rp).g _ _ ⟨fun t aD bD bK k₂=>?_,bP.ex.of⟩ (R.aN ao)
  have di:=bP.step (tk:=bD) bK k₂
  have cI:=R.aW ao bK
  cases t with
  | true=>exact (h' A X ec J _ (x.kept (k.trans k₂))).weak _ _ di cI
  | false=>exact di.ok d v aD bD rfl (.refl _ _) (k₂.rep rp) fun q=>by contradiction
theorem aL.or {f1 f2:Bool}{e f:Expr}{pos:Pos}{a b:PE} (h:aL prog w base cl D n f1 sc j e a) (h':aL prog w base cl D n f2 sc j f b):aL prog w base cl D n false sc j (.BoolOp .Or [e,f] pos) (.or a b):=fun A X ec J s x Q E p aq=>by
  refine Ui (h A X ec J s x _ _ ⟨fun d v ai tk e k rp O=>?_,p.ex.of⟩ (R.aN aq))
  have bP:=p.step (tk:=tk) e k
  have ao:=R.aW aq e
  refine (jz rp).g _ _ ⟨fun t aD bD bK k₂=>?_,bP.ex.of⟩ (R.aN ao)
  have di:=bP.step (tk:=bD) bK k₂
  have cI:=R.aW ao bK
  cases t with
  | false=>exact (h' A X ec J _ (x.kept (k.trans k₂))).weak _ _ di cI
  | true=>exact di.ok d v aD bD rfl (.refl _ _) (k₂.rep rp) fun q=>by contradiction
theorem gC.value {f1:Bool}{e:Expr}{p:PE} (h:aL prog w base cl D n f1 sc j e p) (he:∀ env whole,isTrue e env whole=(do let v <- whole;standAt e.pos;holding [v] (truthy v)):=by intros;rfl):gC prog w base cl D n sc j e p:=fun A X ec J s x Q E p aq=>
 rK (h A X ec J s x _ _ ⟨fun d v ai tk e k rp O=>(jz rp).g _ _ (p.step e k) (R.aW aq e),p.ex.of⟩ (R.aN aq)) (he _ _)
set_option tactic.hygienic true in
theorem gC.not {e:Expr}{pos:Pos}{a:PE} (h:gC prog w base cl D n sc j e a):gC prog w base cl D n sc j (.UnaryOp .Not e pos) (.not a):=fun A X ec J s x Q E p aq=>by
 have e1:(ak D (.not a) J).bind V.truth=((ak D a J).bind V.truth).bind fun b=>.ok (!b):=by
  rw[QJ];cases ak D a J<;>try rfl
  rename_i v;show (R.bind (V.truth v) _).bind V.truth=R.bind (V.truth v) _
  cases V.truth v<;>rfl
 rw[e1] at p aq
 exact wa (h A X ec J s x _ _ ⟨fun b ai tk e k=>(p.step (tk:=tk) e k).ok _ ai tk rfl (.refl _ _),p.ex.of⟩ (R.aN aq))
set_option tactic.hygienic true in
theorem gC.cmp {f1 f2:Bool}{l r:Expr}{op:PH}{pos:Pos}{a b:PE}{o:CmpOp} (ho:o=op.op) (hm:behindInMarks o r=false) (hl:aL prog w base cl D n f1 sc j l a) (hr:aL prog w base cl D n f2 sc j r b):gC prog w base cl D n sc j (.Compare l [o] [r] pos) (.cmp op a b):=by
 subst ho
 intro A X ec J s x Q E p aq
 have e1:(ak D (.cmp op a b) J).bind V.truth=(ak D a J).bind fun d=>(ak D b J).bind fun e=>(pE op d e).bind V.truth:=by
  rw[QI]
  cases ak D a J<;>try rfl
  rename_i v;show (R.bind (ak D b J) _).bind V.truth=R.bind (ak D b J) _
  cases ak D b J<;>rfl
 rw[e1] at p aq
 refine mB (hl A X ec J s x _ _ ⟨fun d v ai tk e k rp O=>?_,p.ex.of⟩ (R.aN aq)) hm
 have bP:=p.step (tk:=tk) e k
 have ao:=R.aW aq e
 refine hr A X ec J _ (x.kept k) _ _ ⟨fun Kx u aD bD bK k₂ gT O=>?_,bP.ex.of⟩ (R.aN ao)
 have di:=bP.step (tk:=bD) bK k₂
 have cI:=R.aW ao bK
 have Hq:=x.kept (k.trans k₂)
 have hu:=Hq.cx.units
 refine (Kv (base:=base) (cl:=cl) (s:={ s with heap:=aD,toks:=bD }) Hq.cx.held (fV hu) op (k₂.rep rp) gT).g _ _ ⟨fun Ox c bE jA rX gU Ky O=>?_,di.ex.of⟩ (R.aN cI)
 exact (jz Ky).g _ _ (di.step rX gU) (R.aW cI rX)
theorem gC.bool {op:BoolOp}{es:List Expr}{pos:Pos}{p:PE} (h:n9 prog w base cl D n op sc j es p):gC prog w base cl D n sc j (.BoolOp op es pos) p:=fun A X ec J s x Q E p aq=>pI (h A X ec J s x Q E p aq)
theorem n9.one {op:BoolOp}{e:Expr}{p:PE} (h:gC prog w base cl D n sc j e p):n9 prog w base cl D n op sc j [e] p:=fun A X ec J s x Q E p aq=>by
 cases op
 ·refine kB (h A X ec J s x _ _ ⟨fun b ai tk e k=>?_,p.ex⟩ aq)
  cases b
  ·exact p.ok _ _ _ e k
  ·exact (wpAny_allTrue_And_nil (p.ok _ _ _ e k)).g
 ·refine mD (h A X ec J s x _ _ ⟨fun b ai tk e k=>?_,p.ex⟩ aq)
  cases b
  ·exact (wpAny_allTrue_Or_nil (p.ok _ _ _ e k)).g
  ·exact p.ok _ _ _ e k
theorem Hr {a b:PE}{J:Ρ}{k:Bool} (e:(ak D a J).bind V.truth=.ok k):(ak D (.and a b) J).bind V.truth=if k then (ak D b J).bind V.truth else .ok false:=by
 rw[QK]
 cases q:ak D a J with
 | ok v=>
  rw[q] at e
  show (R.bind (V.truth v) _).bind V.truth=_
  have e':V.truth v=.ok k:=e
  rw[e']
  cases k
  ·exact e'
  ·rfl
 | exc x=>rw[q] at e;contradiction
 | stuck=>rw[q] at e;contradiction
theorem Kz {a b:PE}{J:Ρ}{k:Bool} (e:(ak D a J).bind V.truth=.ok k):(ak D (.or a b) J).bind V.truth=if k then .ok true else (ak D b J).bind V.truth:=by
 rw[QL]
 cases q:ak D a J with
 | ok v=>
  rw[q] at e
  show (R.bind (V.truth v) _).bind V.truth=_
  have e':V.truth v=.ok k:=e
  rw[e']
  cases k
  ·rfl
  ·exact e'
 | exc x=>rw[q] at e;contradiction
 | stuck=>rw[q] at e;contradiction
theorem Oy {r:R V}{g:V->Bool->R V}{h:V->R Bool}{z:dB} (e:r.bind V.truth=.exc z):(r.bind fun x=>x.truth.bind (g x)).bind h=.exc z:=by
 cases r with
 | ok v=>show ((V.truth v).bind (g v)).bind h=_;rw[show V.truth v=.exc z from e];rfl
 | exc x=>injection e with e;rw[e];rfl
 | stuck=>contradiction
theorem Oz {r:R V}{g:V->Bool->R V}{h:V->R Bool} (e:r.bind V.truth=.stuck):(r.bind fun x=>x.truth.bind (g x)).bind h=.stuck:=by
 cases r with
 | ok v=>show ((V.truth v).bind (g v)).bind h=_;rw[show V.truth v=.stuck from e];rfl
 | exc x=>contradiction
 | stuck=>rfl
theorem o6 {a b:PE}{J:Ρ}{c:PE} (hc:c=.and a b∨c=.or a b):(∀ z,(ak D a J).bind V.truth=.exc z->(ak D c J).bind V.truth=.exc z)/\((ak D a J).bind V.truth=.stuck->(ak D c J).bind V.truth=.stuck):=by
 rcases hc with rfl | rfl<;>exact⟨fun z e=>Oy e,fun e=>Oz e⟩
theorem n9.and {e f:Expr}{r:List Expr}{a b:PE} (h:gC prog w base cl D n sc j e a) (h':n9 prog w base cl D n .And sc j (f::r) b):n9 prog w base cl D n .And sc j (e::f::r) (.and a b):=fun A X ec J s x Q E p aq=>by
 refine aB (o6 (D:=D) (J:=J) (a:=a) (b:=b) (.inl rfl)) fun t1 t2=>?_
 refine kB (h A X ec J s x _ _ ⟨fun k ai tk e₁ kp=>?_,fun z e₁ ai tk q=>p.ex z e₁ ai tk (t1 z q)⟩ fun q=>aq (t2 q))
 rw[Hr e₁] at p aq
 cases k
 ·exact p.ok _ _ _ rfl kp
 ·exact h' A X ec J _ (x.kept kp) _ _ (p.move kp) aq
theorem n9.or {e f:Expr}{r:List Expr}{a b:PE} (h:gC prog w base cl D n sc j e a) (h':n9 prog w base cl D n .Or sc j (f::r) b):n9 prog w base cl D n .Or sc j (e::f::r) (.or a b):=fun A X ec J s x Q E p aq=>by
 refine aB (o6 (D:=D) (J:=J) (a:=a) (b:=b) (.inr rfl)) fun t1 t2=>?_
 refine mD (h A X ec J s x _ _ ⟨fun k ai tk e₁ kp=>?_,fun z e₁ ai tk q=>p.ex z e₁ ai tk (t1 z q)⟩ fun q=>aq (t2 q))
 rw[Kz e₁] at p aq
 cases k
 ·exact h' A X ec J _ (x.kept kp) _ _ (p.move kp) aq
 ·exact p.ok _ _ _ rfl kp
noncomputable def notStar:Expr->Bool
 | .Starred _ _=>false
 | _=>true
theorem aR {e:Expr}{r:List Expr}{env:Env} (h:notStar e=true):starEach (e::r) env=(false,eval e env)::starEach r env:=by cases e<;>first | rfl | contradiction
theorem j7.nil:j7 prog w base cl D n sc j [] .nil:=fun A X ec J s pos x Q E p aq=>by
 exact (spliced_nil (p.ok [] [] _ _ rfl (.refl _ _) .nil)).g
theorem j7.cons {f1:Bool}{e:Expr}{r:List Expr}{a:PE}{as:fZ} (h:aL prog w base cl D n f1 sc j e a) (h':j7 prog w base cl D n sc j r as) (hs:notStar e=true:=by rfl):j7 prog w base cl D n sc j (e::r) (.cons a as):=fun A X ec J s pos x Q E p aq=>by
 rw[aR hs]
 refine cR (h A X ec J s x _ _ ⟨fun d v ai tk e₁ k rp O=>?_,p.ex.of⟩ (R.aN aq))
 have bP:=p.step (tk:=tk) e₁ k
 have ao:=R.aW aq e₁
 refine h' A X ec J _ pos (x.kept k) _ _ ⟨fun ds vs aD bD bK k₂ gT=>?_,bP.ex.of⟩ (R.aN ao)
 exact (bP.step (tk:=bD) bK k₂).ok _ _ aD bD rfl (.refl _ _) (.cons (k₂.rep rp) gT)
theorem bu:(16777216:Nat)<=sizeLine:=by decide +kernel
noncomputable def fZ.len:fZ->Nat
 | .nil=>0
 | .cons _ r=>r.len+1
theorem gV:∀ {ps:fZ}{J:Ρ}{ds:List V},cS D ps J=.ok ds->ds.length=ps.len
 | .nil,_,_,e=>by skip;injection e with e;subst e;rfl
 | .cons a r,J,ds,e=>by
  rw[pY] at e
  cases q:ak D a J with
  | ok v=>
   rw[q] at e
   cases OB:cS D r J with
   | ok vs=>rw[R.bN rfl,OB] at e;injection e with e;subst e;exact congrArg (·+1) (gV OB)
   | exc z=>rw[R.bN rfl,OB] at e;contradiction
   | stuck=>rw[R.bN rfl,OB] at e;contradiction
  | exc z=>rw[q] at e;contradiction
  | stuck=>rw[q] at e;contradiction
theorem aL.list {fr:Bool}{es:List Expr}{ps:fZ}{pos:Pos} (h:j7 prog w base cl D n sc j es ps) (hl:ps.len<=1000:=by decide):aL prog w base cl D n fr sc j (.List es pos) (.list ps):=fun A X ec J s x Q E p aq=>by
 rw[Mk] at p aq
 refine RG (h A X ec J s pos x _ _ ⟨fun ds vs ai tk e₁ k rp=>?_,p.ex.of⟩ (R.aN aq))
 have bP:=p.step (tk:=tk) e₁ k
 have Qi:=gV e₁
 have Uy:=rp.length
 refine (mH (ds:=ds) (vs:=vs.toArray) (fr:=fr) (s:={ s with heap:=ai,toks:=tk }) (by lia) (x.low.kept k) (by simpa using rp) (fun Q E hQ=>wpAny_newList (hQ _) (by have:=bu;lia))).g _ _ bP (by intro q;contradiction)
theorem aL.tuple {fr:Bool}{es:List Expr}{ps:fZ}{pos:Pos}{k:Nat} (h:j7 prog w base cl D n sc j es ps) (hl:ps.len<=1000:=by decide):aL prog w base cl D n fr sc j (.Tuple es k pos) (.tuple ps):=fun A X ec J s x Q E p aq=>by
 refine Oo (h A X ec J s pos x _ _ ⟨fun ds vs ai tk e₁ k rp=>?_,p.ex.of⟩ (R.aN aq))
 have bP:=p.step (tk:=tk) e₁ k
 have Qi:=gV e₁
 have Uy:=rp.length
 refine (wpAny_newObj_type (T:="tuple") (data:=.seq vs.toArray) (bP.ok (.tuple ds) _ _ _ rfl (Kept.push _ _ _) ?_ fun O=>trivial) (by show vs.toArray.size<=sizeLine;have:=bu;simp;lia)).g
 refine⟨_,_,_,0,rfl,⟨Heap.get?_push_size _ rfl,(x.low.kept k).none (bS _)⟩,rfl,rfl,by lia,?_⟩
 have k₂:=Kept.push base ai { cls:=.type "tuple",data:=.seq vs.toArray }
 simpa using k₂.j5 rp
end
section
variable {prog:Program}{w:World}{base:Heap}{cl:dB->Value}{A:Around}{X:Addr->Prop}{s:Shared}{D:Fn->List V->R V}{n:Nat}{sc:Scope}{j:List (PySem.Str × Nat)}{K:Frag}
theorem yH {h:Heap}{ec:Env}{x:PySem.Str}{pos:Pos}{v:Value}{Q E:Value->Shared->Prop} (g:Ge ec) (y:Var s.heap ec x v) (hQ:Q v s) (hd:(x == ("__debug__":PySem.Str))=false) (hc:(x == ("__classdict__":PySem.Str))=false) :
  wpAny (model prog w) A (eval (.Name x pos) ec) Q E s:=by
 refine wpAny_Name ?_ hd
 rcases y with ⟨k,m,hn,e⟩ | ⟨k,c,e,du⟩
 ·exact wpAny_loadName_local g.kind k hn e hQ
 ·rcases k with k | k
  ·exact wpAny_loadName_cell g.kind k e du hQ
  ·exact wpAny_loadName_free g.kind k e du hQ hc
theorem aL.loc {x:PySem.Str}{i:Nat}{pos:Pos} (e:j.lookup x=some i) (hd:(x == ("__debug__":PySem.Str))=false) (hc:(x == ("__classdict__":PySem.Str))=false) :
  aL prog w base cl D n false sc j (.Name x pos) (.loc i):=fun A X ec J s a Q E p aq=>by
 rw[QH] at p aq
 cases q:J[i]? with
 | none=>rw[q] at aq;exact absurd rfl aq
 | some o=>
  cases o with
  | none=>rw[q] at aq;exact absurd rfl aq
  | some d=>
   rw[q] at p
   refine Exists.elim (a.rel x i d e q) fun v zz=>aB zz fun hv hr=>?_
   exact (yH (h:=s.heap) a.ge hv (p.ok d v s.heap s.toks rfl (.refl _ _) hr fun z=>by contradiction) hd hc).g
theorem jY {ec:Env}{x:PySem.Str}{pos:Pos}{v:Value}{Q E:Value->Shared->Prop} (W:Wd K base) (st:base.StaysIn s.heap) (g:Ge ec) (hs:ec.scope=sc) (hk:sc.names.lookup x=some .globalImplicit) (e:nsIn K mainGlobals x=some (some v)) (hQ:Q v s)
  (hd:(x == ("__debug__":PySem.Str))=false):wpAny (model prog w) A (eval (.Name x pos) ec) Q E s:=by
 refine kK W.top fun p loose mg mb T=>?_
 refine Name_function_global g.kind (by unfold Env.kindOf;rw[hs];exact hk) (loadGlobal_global (mg:=mg) (by rw[g.globals];exact T.g.keeps st) (mg_of W.jy T.g e) hQ) hd
theorem cJ {ec:Env}{x:PySem.Str}{pos:Pos}{v:Value}{Q E:Value->Shared->Prop} (W:Wd K base) (st:base.StaysIn s.heap) (g:Ge ec) (hs:ec.scope=sc) (hk:sc.names.lookup x=some .globalImplicit) (e:nsIn K mainGlobals x=some none) (hv:bootBuiltins x=some v) (hQ:Q v s)
  (hn:x≠"__name__") (hd:(x == ("__debug__":PySem.Str))=false):wpAny (model prog w) A (eval (.Name x pos) ec) Q E s:=by
 refine kK W.top fun p loose mg mb T=>?_
 refine Name_function_global g.kind (by unfold Env.kindOf;rw[hs];exact hk) (loadGlobal_builtin (mg:=mg) (mb:=mb) (by rw[g.globals];exact T.g.keeps st) (mg_none_of W.jy T.g e) (by rw[g.builtins];exact T.b.keeps st) ((T.builtins x hn).trans hv) hQ) hd
theorem aL.glob {x:PySem.Str}{pos:Pos}{gv:Value}{d:V} (W:Wd K base) (hk:sc.names.lookup x=some .globalImplicit) (e:nsIn K mainGlobals x=some (some gv)) (hr:∀ (g:Addr->Obj->Prop),(∀ a o,K.lookup a=some o->g a o)->Rep g d gv)
  (hd:(x == ("__debug__":PySem.Str))=false):aL prog w base cl D n false sc j (.Name x pos) (.glob d):=fun A X ec J s a Q E p aq=>by
 refine (jY W a.cx.stays a.ge a.scope hk e (p.ok d gv s.heap s.toks rfl (.refl _ _) (hr _ fun b o q=>⟨a.cx.stays b o (W.jy b o q),fun hx=>?_⟩) fun z=>by contradiction) hd).g
 have e1:=a.new b hx
 rw[W.jy b o q] at e1;contradiction
theorem By (l:Addr) (items:Array Value) (n:Nat) (dd:Option Addr) (sl:Array (Option Value)) (i:Int) (u:Tok) (k:Nat) (y:Value) (V3:-2 ^ 63<=i) (hhi:i<2 ^ 63) (hk:seqIndex? i items.size=some k) (hy:items[k]?=some y) :
  Meets (Builtin.«tuple.__getitem__» ⟨[.ref l,.int i u],[]⟩)
   (fun O R s=>s.heap.get? l=some { cls:=.type "tuple",dict:=dd,data:=.seq items n,slots:=sl }/\R (.ok (.ret y)) s):=
 .of_wp fun prog w A R s h=>by
  obtain⟨hp,g,d,tk,os⟩:=s;obtain⟨hl,h⟩:=h
  have f1:=AutoSeq1.idx_int
  have hf:¬ (decide (i < -2 ^ 63)||decide (i ≥ 2 ^ 63))=true:=by simp;omega
  wp_walk using AutoSeq1.wpAny_loadPart' hl
  simp only[hk,hy,Option.bind_some]
  refine wpAny_ite_false (by simp;omega) ?_
  wp_walk
  exact⟨_,rfl,h⟩
theorem jB {i:Int}{n:Nat} (h0:0<=i) (h1:i.toNat<n):seqIndex? i n=some i.toNat:=by
 unfold seqIndex?
 rw[if_neg (show ¬ i<0 by lia)]
 rw[if_pos (by simp;lia)]
set_option tactic.hygienic true in
theorem OD {value slice:Expr}{x y:V}{o i:Value} (rx:Rep (seen X s.heap) x o) (ry:Rep (seen X s.heap) y i) (hs:∀ o i,∃ ops,subscripted slice false o i=operate ops (getItem o i)) (ht:∀ r,letTemporaryGo value o r=pure ()) :
  Ev prog w base cl A X false (subscriptTail value slice o i) s (ib x y):=by
 refine Exists.elim (hs o i) fun ops yI=>?_
 cases x<;>first | exact .stuck | skip
 ·rename_i l
  cases y<;>first | exact .stuck | skip
  rename_i k
  rw[Mf]
  refine bT (fy rx) fun z t zz=>b5 zz fun av e hl=>?_;clear zz;subst av
  refine Exists.elim (gk ry) fun u av=>?_;subst av
  split
  ·rename_i h0
   cases hc:l[k.toNat]? with
   | none=>exact .stuck
   | some c=>
    have hJ:=(List.getElem?_eq_some_iff.mp hc).1
    have ZC:=str_len e
    refine Ev.flat (fun O O O=>trivial) fun Q E hQ=>subscriptTail_ops (typeIs_str s z t) F.slot_str_getitem.lookup (P.getItem_str (c:=c) ?_ ?_ (hQ _ _ (c6 _ rfl (by simp)))) yI ht
    ·simp;lia
    ·rw[jB h0 (by lia)]
     show z.cps[k.toNat]?=some c
     rw[<- Array.getElem?_toList,e];exact hc
  ·exact .stuck
 ·rename_i l
  cases y<;>first | exact .stuck | skip
  rename_i k
  rw[Mg]
  refine bT (ef rx) fun z t zz=>b5 zz fun av e hl=>?_;clear zz;subst av
  refine Exists.elim (gk ry) fun u av=>?_;subst av
  split
  ·rename_i h0
   cases hc:l[k.toNat]? with
   | none=>exact .stuck
   | some c=>
    have hJ:=(List.getElem?_eq_some_iff.mp hc).1
    have ZC:=a8 e
    subst e
    rw[List.getElem?_map] at hc
    refine Exists.elim (Option.map_eq_some_iff.mp hc) fun b zz=>aB zz fun hb av=>?_;clear zz;subst av
    refine Ev.flat (fun O O O=>trivial) fun Q E hQ=>subscriptTail_ops (W.typeIs_bytes s z t) FB.slot_bytes_getitem.lookup (getItem_gives (W.typeIs_bytes s z t) (by decide) FB.slot_bytes_getitem FB.entry_bytes_getitem (FB.args_bytes_getitem_2 _ _) (W.gives_bytes_getitem z k t u b ?_ ?_) (hQ _ _ (bB _ _))) yI ht
    ·unfold Builtin.Bytes.fitsIndex;simp;lia
    ·rw[jB h0 (by lia)]
     show z[k.toNat]?=some b
     rw[<- Array.getElem?_toList];exact hb
  ·exact .stuck
 ·rename_i xs
  cases y<;>first | exact .stuck | skip
  rename_i k
  rw[Mh]
  refine Te (rP rx) fun a dd sl vs nn zz=>nk zz fun av hX ha hl rl=>?_;clear zz;subst av
  refine Exists.elim (gk ry) fun u av=>?_;subst av
  split
  ·rename_i h0
   cases hc:xs[k.toNat]? with
   | none=>exact .stuck
   | some d=>
    have hJ:=(List.getElem?_eq_some_iff.mp hc).1
    refine Exists.elim (rl.get hc) fun v zz=>aB zz fun hv rv=>?_
    refine Ev.val fun Q E hQ=>subscriptTail_ops (bF ha).typeIs F.slot_list_getitem.lookup (wpAny_getItem_list (bF ha) h0 (by lia) (x:=v) (by rw[<- Array.getElem?_toList];exact hv) (hQ v s.heap s.toks (.refl _ _) rv fun q=>by contradiction)) yI ht
  ·exact .stuck
 ·rename_i xs
  cases y<;>first | exact .stuck | skip
  rename_i k
  rw[Mi]
  refine Te (uG rx) fun a dd sl vs nn zz=>nk zz fun av hX ha hl rl=>?_;clear zz;subst av
  refine Exists.elim (gk ry) fun u av=>?_;subst av
  split
  ·rename_i h0
   cases hc:xs[k.toNat]? with
   | none=>exact .stuck
   | some d=>
    have hJ:=(List.getElem?_eq_some_iff.mp hc).1
    have hlen:=rl.length
    refine Exists.elim (rl.get hc) fun v zz=>aB zz fun hv rv=>?_
    have hT:s.TypeIs (.ref a) "tuple":=⟨_,ha,rfl⟩
    refine Ev.val fun Q E hQ=>subscriptTail_ops hT F.slot_tuple_getitem.lookup (getItem_meets hT (by decide) F.slot_tuple_getitem F.entry_tuple_getitem (F.args_tuple_getitem_2 _ _) (By a vs nn dd sl k u k.toNat v (by lia) (by lia) (jB h0 (by simp at hlen;lia)) (by rw[<- Array.getElem?_toList];exact hv)) ⟨ha,hQ v s.heap s.toks (.refl _ _) rv fun q=>by contradiction⟩) yI ht
  ·exact .stuck
theorem Dk {value:Expr}{x:V}{o:Value}{g:Addr->Obj->Prop} (h:x.i6=true) (r:Rep g x o) (v:Value):letTemporaryGo value o v=pure ():=by
 cases x<;>first | (contradiction;done) | skip
 ·refine cH r fun O O O O=>?_;cases value<;>rfl
 ·refine aT r fun O O O O=>?_;cases value<;>rfl
theorem aL.idx {f1 f2:Bool}{value slice:Expr}{pos:Pos}{a i:PE} (h:aL prog w base cl D n f1 sc j value a) (h':aL prog w base cl D n f2 sc j slice i)
  (hs:∀ o i,∃ ops,subscripted slice false o i=operate ops (getItem o i)) (ht:a.isName=false∨∀ o r,letTemporaryGo value o r=pure ()) :
  aL prog w base cl D n false sc j (.Subscript value slice pos) (.idx a i):=fun A X ec J s x Q E p aq=>by
 refine oZ (h A X ec J s x _ _ ⟨fun d v ai tk e k rp O=>?_,p.ex.of⟩ (R.aN aq))
 have bP:=p.step (tk:=tk) e k
 have ao:=R.aW aq e
 refine h' A X ec J _ (x.kept k) _ _ ⟨fun Kx u aD bD bK k₂ gT O=>?_,bP.ex.of⟩ (R.aN ao)
 have di:=bP.step (tk:=bD) bK k₂
 have cI:=R.aW ao bK
 refine kE.guard (s:={ s with heap:=aD,toks:=bD }) (fun hg=>(OD (k₂.rep rp) gT hs ?_).g) _ _ di cI
 rcases ht with ht | ht
 ·rw[ht,Bool.false_or] at hg;exact Dk hg rp
 ·exact ht _
set_option tactic.hygienic true in
theorem eL {n d:Nat}{x:V}{v:Value}{a:Nat}{g:Addr->Obj->Prop} (e:bound n d x=some a) (r:Rep g x v):∃ o:Option (Int × Tok),v=partValue o/\(o.map (·.1)).elim d (clipAt n)=a:=by
 cases x<;>first | contradiction | skip
 ·injection e with e;subst e;exact⟨none,yD r,rfl⟩
 ·rename_i i
  injection e with e;subst e
  refine aP r fun t=>?_
  refine⟨some (i,t),rfl,?_⟩
  show clipAt n i=_
  have:=clipAt_cast n i
  split at this<;>(rename_i q;first | rw[if_pos q] | rw[if_neg q])<;>lia
theorem gW (o:Option (Int × Tok)):IsPart (partValue o) (o.map (·.1)):=by
 cases o with
 | none=>exact .none
 | some p=>exact .int _ _
theorem pL {α:Type} (l:List α) (a k:Nat):((List.range k).map (a+·)).filterMap (l[·]?)=(l.drop a).take k:=by
 induction k generalizing a with
 | zero=>simp
 | succ k ih=>
  rw[List.range_succ_eq_map]
  simp only[List.map_cons,List.filterMap_cons,List.map_map,Nat.add_zero]
  have e:((fun x=>a+x)∘Nat.succ)=fun x=>(a+1)+x:=by funext x;simp;lia
  rw[e]
  cases q:l[a]? with
  | none=>
   have h1:=List.getElem?_eq_none_iff.mp q
   simp only[ih]
   rw[List.drop_eq_nil_of_le h1,List.drop_eq_nil_of_le (by lia)]
   simp
  | some c=>
   simp only[ih]
   refine Exists.elim (List.getElem?_eq_some_iff.mp q) fun h1 h2=>?_
   rw[List.drop_eq_getElem_cons h1,h2]
   simp
theorem Bz (l:List Nat) (lo hi:Option Int):(Builtin.Str.strSliceIndices lo hi 1 l.length).filterMap (l[·]?)=cut l (lo.elim 0 (clipAt l.length)) (hi.elim l.length (clipAt l.length)):=by
 have e:Builtin.Str.strSliceIndices lo hi 1 l.length=sliceRange ((lo.elim 0 (clipAt l.length):Nat):Int) ((hi.elim l.length (clipAt l.length):Nat):Int) 1:=by
  unfold Builtin.Str.strSliceIndices
  cases lo<;>cases hi<;>simp[clipAt_cast]
 rw[e,sliceRange_one,pL]
 rfl
theorem iF {α:Type} (l:List α) (a b:Nat):(cut l a b).length<=l.length:=by unfold cut;simp;lia
theorem Hs (n:Nat) (i:Int):clipAt n i<=n:=by have:=clipAt_cast n i;omega
theorem Dl (n:Nat) (o:Option Int) (d:Nat) (hd:d<=n):o.elim d (clipAt n)<=n:=by cases o;exact hd;exact Hs _ _
theorem BC (n:Nat) (lo hi:Option Int):Builtin.Str.strSliceIndices lo hi 1 n=sliceRange ((lo.elim 0 (clipAt n):Nat):Int) ((hi.elim n (clipAt n):Nat):Int) 1:=by
 unfold Builtin.Str.strSliceIndices
 cases lo<;>cases hi<;>simp[clipAt_cast]
theorem Ht {α:Type} (l:List α) (lo hi:Option Int) (h:(Builtin.Str.strSliceIndices lo hi 1 l.length).length=l.length):cut l (lo.elim 0 (clipAt l.length)) (hi.elim l.length (clipAt l.length))=l:=by
 rw[BC,sliceRange_one] at h
 simp only[List.length_map,List.length_range] at h
 have h1:=Dl l.length lo 0 (Nat.zero_le _)
 have h2:=Dl l.length hi l.length (Nat.le_refl _)
 by_cases hz:l.length=0
 ·have:=List.eq_nil_of_length_eq_zero hz;subst this;simp[cut]
 ·have h3:lo.elim 0 (clipAt l.length)=0:=by lia
  have h4:hi.elim l.length (clipAt l.length)=l.length:=by lia
  rw[h3,h4];simp[cut]
set_option tactic.hygienic true in
theorem KC {value slice:Expr}{x y z:V}{o u v:Value}{sl:Addr} (hX:ni X s.heap) (rx:Rep (seen X s.heap) x o) (ry:Rep (seen X s.heap) y u) (rz:Rep (seen X s.heap) z v) (Uc:s.heap.get? sl=some { cls:=.type "slice",data:=.fields #[u,v,.none] })
  (hs:∀ o i,∃ ops,subscripted slice false o i=operate ops (getItem o i)) (ht:∀ r,letTemporaryGo value o r=pure ()) :
  Ev prog w base cl A X true (subscriptTail value slice o (.ref sl)) s (aO x y z):=by
 refine Exists.elim (hs o (.ref sl)) fun ops yI=>?_
 cases x<;>first | exact .stuck | skip
 ·rename_i l
  rw[DL]
  cases ea:bound l.length 0 y with
  | none=>exact .stuck
  | some a=>
  cases eb:bound l.length l.length z with
  | none=>exact .stuck
  | some b=>
   refine bT (fy rx) fun q t zz=>b5 zz fun av e hl=>?_;clear zz;subst av
   refine Exists.elim (eL ea ry) fun ol zz=>aB zz fun av el=>?_;clear zz;subst av
   refine Exists.elim (eL eb rz) fun ou zz=>aB zz fun av eu=>?_;clear zz;subst av
   have hlen:=str_len e
   have hf:((Builtin.Str.strSliceIndices (ol.map (·.1)) (ou.map (·.1)) 1 q.length).filterMap (q.cps[·]?))=cut l a b:=by
    rw[hlen,<- el,<- eu,<- Bz]
    congr 1
    funext i
    rw[<- Array.getElem?_toList,e]
   refine Ev.flat (fun O O O=>trivial) fun Q E hQ=>subscriptTail_ops (typeIs_str s q t) F.slot_str_getitem.lookup (wpAny_getItem_str_slice (l:=ol) (u:=ou) (st:=none) ⟨_,Uc,rfl,rfl⟩ rfl ?_) yI ht
   unfold sliceMade slicePicked
   simp only[Option.map_none,Option.getD_none,beq_self_eq_true,Bool.true_and]
   split
   ·rename_i hw
    have PY:=beq_iff_eq.mp hw
    rw[hlen] at PY
    have e2:cut l a b=l:=by rw[<- el,<- eu];exact Ht l _ _ PY
    exact hQ _ _ (by rw[e2];exact c6 t e hl)
   ·refine⟨?_,hQ _ _ (c6 _ (by rw[hf]) (Nat.le_trans (iF l a b) hl))⟩
    show (List.filterMap _ _).toArray.size<=_
    rw[hf,List.size_toArray]
    have:=iF l a b
    have:=bu
    lia
 ·rename_i l
  rw[DM]
  cases ea:bound l.length 0 y with
  | none=>exact .stuck
  | some a=>
  cases eb:bound l.length l.length z with
  | none=>exact .stuck
  | some b=>
   refine bT (ef rx) fun q t zz=>b5 zz fun av e hl=>?_;clear zz;subst av
   refine Exists.elim (eL ea ry) fun ol zz=>aB zz fun av el=>?_;clear zz;subst av
   refine Exists.elim (eL eb rz) fun ou zz=>aB zz fun av eu=>?_;clear zz;subst av
   have hlen:=a8 e
   have hf:(KBy.picked q (ol.map (·.1)) (ou.map (·.1))).toList.map UInt8.toNat=cut l a b:=by
    rw[KBc.picked_eq,hlen,el,eu]
    subst e
    simp only[cut,List.map_take,List.map_drop]
   refine Ev.flat (fun O O O=>trivial) fun Q E hQ=>subscriptTail_ops (W.typeIs_bytes s q t) FB.slot_bytes_getitem.lookup (getItem_meets (W.typeIs_bytes s q t) (by decide) FB.slot_bytes_getitem FB.entry_bytes_getitem (FB.args_bytes_getitem_2 _ _) (KBc.meets_slice2 q t sl (gW ol) (gW ou)) ⟨⟨_,Uc,rfl,rfl⟩,?_,fun t' k=>(hQ _ _ (dF _ hf (Nat.le_trans (iF l a b) hl)))⟩) yI ht
   have:=KBc.size_picked_le q (ol.map (·.1)) (ou.map (·.1))
   have:=bu
   lia
 ·rename_i ds
  rw[DN]
  cases ea:bound ds.length 0 y with
  | none=>exact .stuck
  | some a=>
  cases eb:bound ds.length ds.length z with
  | none=>exact .stuck
  | some b=>
   refine Te (rP rx) fun l dd Io vs nn zz=>nk zz fun av hXl hl hlen rl=>?_;clear zz;subst av
   refine Exists.elim (eL ea ry) fun ol zz=>aB zz fun av el=>?_;clear zz;subst av
   refine Exists.elim (eL eb rz) fun ou zz=>aB zz fun av eu=>?_;clear zz;subst av
   have j4:vs.size=ds.length:=by have:=rl.length;simpa using this
   have hp:slicePick vs (ol.map (·.1)) (ou.map (·.1)) none=(cut vs.toList a b).toArray:=by
    rw[slicePick_plain,j4,el,eu];rfl
   refine mH (vs:=(cut vs.toList a b).toArray) (Nat.le_trans (iF ds a b) hlen) hX (by unfold cut;simpa using (rl.drop a).take (b - a)) fun Q E hQ=>subscriptTail_ops (bF hl).typeIs F.slot_list_getitem.lookup (wpAny_getItem_list_slice (bF hl) ⟨_,Uc,rfl,rfl⟩ (gW ol) (gW ou) (gW none) (by simp) (by
    show Q _ { s with heap:=s.heap.push { cls:=.type "list",data:=.seq (slicePick vs (ol.map (·.1)) (ou.map (·.1)) none) } }
    rw[hp];exact hQ s.toks) (by have:=bu;lia)) yI ht
def wm (prog:Program) (w:World) (base:Heap) (cl:dB->Value) (D:Fn->List V->R V) (n:Nat) (sc:Scope) (j:List (PySem.Str × Nat)) (o:Option Expr) (p:PE):Prop:=
 ∀ (A:Around) (X:Addr->Prop) (ec:Env) (J:Ρ) (s:Shared),At base n A X none sc j ec J s.heap->kE prog w base cl A X false (evalPart o ec) s (ak D p J)
theorem wm.none:wm prog w base cl D n sc j none (.const .none):=fun A X ec J s x=>(Ev.flat (d:=.none) (fun O O O=>trivial) fun Q E hQ=>wpAny_pure (hQ _ s.toks rN)).g
theorem wm.some {f1:Bool}{e:Expr}{p:PE} (h:aL prog w base cl D n f1 sc j e p):wm prog w base cl D n sc j (some e) p:=fun A X ec J s x=>(h A X ec J s x).weak
theorem aL.slice {f1:Bool}{fr:Bool}{value:Expr}{lo hi:Option Expr}{sp pos:Pos}{a l u:PE} (h:aL prog w base cl D n f1 sc j value a) (hl:wm prog w base cl D n sc j lo l) (hu:wm prog w base cl D n sc j hi u)
  (ht:a.isName=false∨∀ o r,letTemporaryGo value o r=pure ()) :
  aL prog w base cl D n fr sc j (.Subscript value (.Slice lo hi Option.none sp) pos) (.slice a l u):=fun A X ec J s x Q E p aq=>by
 refine oZ (h A X ec J s x _ _ ⟨fun d v ai tk e k rp O=>?_,p.ex.of⟩ (R.aN aq))
 have bP:=p.step (tk:=tk) e k
 have ao:=R.aW aq e
 refine Oq (hl A X ec J _ (x.kept k) _ _ ⟨fun Kx RQ aD bD bK k₂ gT O=>?_,bP.ex.of⟩ (R.aN ao))
 have di:=bP.step (tk:=bD) bK k₂
 have cI:=R.aW ao bK
 refine hu A X ec J _ (x.kept (k.trans k₂)) _ _ ⟨fun Ox RT bE jA rX gU Ky O=>?_,di.ex.of⟩ (R.aN cI)
 have WV:=di.step (tk:=jA) rX gU
 have RV:=R.aW cI rX
 have tf:=Kept.push base bE { cls:=.type "slice",data:=.fields #[RQ,RT,.none] }
 have RW:=x.low.kept (k.trans (k₂.trans (gU.trans tf)))
 have go:kE prog w base cl A X fr (subscriptTail value (.Slice lo hi Option.none sp) v (.ref bE.objs.size)) { s with heap:=bE.push { cls:=.type "slice",data:=.fields #[RQ,RT,.none] },toks:=jA } (R.guard (a.isName||d.i6) (aO d Kx Ox)):=
  kE.guard fun hg=>by
   have:=KC (prog:=prog) (w:=w) (base:=base) (cl:=cl) (A:=A) (value:=value) (slice:=.Slice lo hi Option.none sp) (s:={ s with heap:=bE.push { cls:=.type "slice",data:=.fields #[RQ,RT,.none] },toks:=jA }) (sl:=bE.objs.size) RW (tf.rep (gU.rep (k₂.rep rp))) (tf.rep (gU.rep gT)) (tf.rep Ky) (Heap.get?_push_size _ rfl) (fun O O=>⟨_,rfl⟩) (by
    rcases ht with ht | ht
    ·rw[ht,Bool.false_or] at hg;exact Dk hg rp
    ·exact ht _)
   cases fr
   ·exact this.weak.g
   ·exact this.g
 exact go _ _ (WV.move tf) RV
end
section
variable (prog:Program) (w:World) (base:Heap) (cl:dB->Value) (D:Fn->List V->R V) (n:Nat)
def jC (sc:Scope) (j:List (PySem.Str × Nat)) (e:Expr) (p:uT):Prop:=
 ∀ (A:Around) (X:Addr->Prop) (ec:Env) (J:Ρ) (s:Shared),At base n A X none sc j ec J s.heap->∀ (Q E:Value->Shared->Prop),
  (∀ ds h' o tk,gG D p J=.ok ds->Kept base s.heap h'->bh (h'.push o) X h'.objs.size ds->Q (.ref h'.objs.size) { s with heap:=h'.push o,toks:=tk })->
  Ex base cl s (gG D p J) E->gG D p J≠.stuck->aK (model prog w) A (eval e ec) (fun v s₁=>wpAny (model prog w) A (pyIter v) Q E s₁) E s
end
section
variable {prog:Program}{w:World}{base:Heap}{cl:dB->Value}{A:Around}{X:Addr->Prop}{s:Shared}{D:Fn->List V->R V}{n:Nat}{sc:Scope}{j:List (PySem.Str × Nat)}{K:Frag}
theorem wo {d:V}{z:dB} (e:qm d=.exc z):False:=by
 cases d with
 | str x=>
  rw[w6] at e
  cases q:ascii x<;>rw[q] at e<;>contradiction
 | _=>contradiction
theorem jC.val {f1:Bool}{e:Expr}{p:PE} (h:aL prog w base cl D n f1 sc j e p):jC prog w base cl D n sc j e (.val p):=fun A X ec J s x Q E hQ hE aq=>by
 refine h A X ec J s x _ _ ⟨fun d v ai tk e₁ k rp O=>?_,hE.of⟩ (R.aN aq)
 cases q:qm d with
 | ok ds=>exact Kw (s:={ s with heap:=ai,toks:=tk }) q rp fun o i O=>hQ ds ai o tk ((R.bN e₁).trans q) k i
 | exc z=>exact (wo q).elim
 | stuck=>exact absurd ((R.bN e₁).trans q) aq
theorem lC {pos np:Pos}{es:List Expr}{ps:fZ} (W:Wd K base) (hk:sc.names.lookup (Str.ofString "range")=some .globalImplicit) (hg:nsIn K mainGlobals (Str.ofString "range")=some none) (hb:bootBuiltins (Str.ofString "range")=some (.type "range"))
  (h:j7 prog w base cl D n sc j es ps) (rY:∃ (t:Env->Sem Value) (r:Env->List (Bool × Sem Value)),∀ env,starEach es env=(false,t env)::r env) (zr:∀ env,(backTo pos (starEach es env)).any (·.1)=false)
  {ec:Env}{J:Ρ} (x:At base n A X none sc j ec J s.heap) {Q E:Value->Shared->Prop}
  (hQ:∀ ds vs h' tk,cS D ps J=.ok ds->Kept base s.heap h'->ay (seen X h') ds vs->wpAny (model prog w) A (call (.type "range") vs []) Q E { s with heap:=h',toks:=tk })
  (hE:Ex base cl s (cS D ps J) E) (aq:cS D ps J≠.stuck):aK (model prog w) A (eval (.Call (.Name (Str.ofString "range") np) es [] pos) ec) Q E s:=by
 refine dz (cJ W x.cx.stays x.ge x.scope hk hg hb ?_ (by decide) (by decide)).g
 refine dP (zr ec) ?_
 refine bT rY fun t r gg=>?_
 have hs:=h A X ec J s pos x
 rw[gg] at hs ⊢
 refine c5 (hs _ _ ⟨fun ds vs h' tk e k rp=>?_,hE⟩ aq)
 exact (hQ ds vs h' tk e k rp).g
noncomputable def wq (l h:V) (st:Nat):R (List V):=match l,h with
 | .int l,.int h=>R.guard (decide (st=1∨st=2)&&decide (l.natAbs<=1000000)&&decide (h.natAbs<=1000000)) (.ok (ig l h st))
 | _,_=>.stuck
theorem rZ {a b:V}{st:Nat} (h:wq a b st≠.stuck):∃ l u:Int,a=.int l/\b=.int u/\l.natAbs<=1000000/\u.natAbs<=1000000/\wq a b st=.ok (ig l u st):=by
 cases a with
 | int l=>
  cases b with
  | int u=>
   cases q:(decide (st=1∨st=2)&&decide (l.natAbs<=1000000)&&decide (u.natAbs<=1000000)) with
   | true=>
    have q':=Bool.and_eq_true_iff.mp q
    exact⟨l,u,rfl,rfl,of_decide_eq_true (Bool.and_eq_true_iff.mp q'.1).2,of_decide_eq_true q'.2,(show R.guard _ _=_ by rw[q];rfl)⟩
   | false=>exact absurd (show R.guard _ _=_ by rw[q];rfl) h
  | _=>exact absurd rfl h
 | _=>exact absurd rfl h
theorem yJ {lo hi:PE}{st:Nat}{J:Ρ}{r:fZ}{c:V} (hr:cS D r J=.ok []∨cS D r J=.ok [c]):gG D (.sM lo hi st) J=(cS D (.cons lo (.cons hi r)) J).bind fun ds=>wq (ds.getD 0 .none) (ds.getD 1 .none) st:=by
 show (ak D lo J).bind (fun l=>(ak D hi J).bind fun h=>wq l h st)=((ak D lo J).bind fun v=>((ak D hi J).bind fun v=>(cS D r J).bind fun vs=>.ok (v::vs)).bind fun vs=>.ok (v::vs)).bind _
 cases ak D lo J with
 | ok a=>
  cases ak D hi J with
  | ok b=>rcases hr with q | q<;>rw[q]<;>rfl
  | exc z=>rfl
  | stuck=>rfl
 | exc z=>rfl
 | stuck=>rfl
theorem R.mK {α:Type}{c:Bool}{r:R α} (h:R.guard c r≠.stuck):c=true:=by
 unfold R.guard at h
 split at h
 ·assumption
 ·exact absurd rfl h
theorem jC.WW {f1 f2:Bool}{pos np:Pos}{a b:Expr}{lo hi:PE} (W:Wd K base) (hk:sc.names.lookup (Str.ofString "range")=some .globalImplicit) (hg:nsIn K mainGlobals (Str.ofString "range")=some none) (hb:bootBuiltins (Str.ofString "range")=some (.type "range"))
  (h:aL prog w base cl D n f1 sc j a lo) (h':aL prog w base cl D n f2 sc j b hi) (RX:notStar a=true) (lL:notStar b=true):jC prog w base cl D n sc j (.Call (.Name (Str.ofString "range") np) [a,b] [] pos) (.sM lo hi 1):=fun A X ec J s x Q E hQ hE aq=>by
 rw[yJ (r:=.nil) (c:=.none) (.inl rfl)] at hQ hE aq
 refine lC W hk hg hb (.cons h (.cons h' .nil lL) RX) ⟨_,_,fun O=>aR RX⟩ (by intro env;rw[aR RX,aR lL];rfl) x (fun ds vs ai tk e k rp=>?_) hE.of (R.aN aq)
 have e':=R.bN (f:=fun ds=>wq (ds.getD 0 .none) (ds.getD 1 .none) 1) e
 have hn:=R.aW aq e
 refine bT (rZ hn) fun l u z=>nk z fun z1 z2 z3 z4 z5=>?_
 clear z
 have Uz:=e'.trans z5
 have hl:=gV e
 clear e e' z5 hn
 revert rp z1 z2
 refine cB hl fun a r w=>cB w fun b r w=>?_
 obtain rfl:=List.eq_nil_of_length_eq_zero w
 intro rp z1 z2
 obtain rfl:a=.int l:=z1
 obtain rfl:b=.int u:=z2
 refine ay.cB rp fun v O r1 rp=>ay.cB rp fun v2 O r2 rp=>ay.Bj rp ?_
 refine aP r1 fun t=>?_
 refine aP r2 fun t2=>?_
 refine call_range_2 (s:={ s with heap:=ai,toks:=tk }) ?_
 exact lB (X:=X) (s:={ s with heap:=ai.push { cls:=.type "range",data:=.fields #[.int l t,.int u t2,.int 1 tk] },toks:=tk+1 }) (st:=1) (IsRange.new ai l u 1 t t2 tk) (.inl rfl) z3 z4 fun o i O=>hQ _ _ o _ Uz (k.trans (Kept.push _ _ _)) i
theorem jC.WX {f1:Bool}{pos np:Pos}{b:Expr}{hi:PE} (W:Wd K base) (hk:sc.names.lookup (Str.ofString "range")=some .globalImplicit) (hg:nsIn K mainGlobals (Str.ofString "range")=some none) (hb:bootBuiltins (Str.ofString "range")=some (.type "range"))
  (h':aL prog w base cl D n f1 sc j b hi) (lL:notStar b=true):jC prog w base cl D n sc j (.Call (.Name (Str.ofString "range") np) [b] [] pos) (.sM (.const (.int 0)) hi 1):=fun A X ec J s x Q E hQ hE aq=>by
 have e0:gG D (.sM (.const (.int 0)) hi 1) J=(cS D (.cons hi .nil) J).bind fun ds=>wq (.int 0) (ds.getD 0 .none) 1:=by
  show (ak D hi J).bind (fun h=>wq (.int 0) h 1)=((ak D hi J).bind fun v=>.ok [v]).bind _
  cases ak D hi J<;>rfl
 rw[e0] at hQ hE aq
 refine lC W hk hg hb (.cons h' .nil lL) ⟨_,_,fun O=>aR lL⟩ (by intro env;rw[aR lL];rfl) x (fun ds vs ai tk e k rp=>?_) hE.of (R.aN aq)
 have e':=R.bN (f:=fun ds=>wq (.int 0) (ds.getD 0 .none) 1) e
 have hn:=R.aW aq e
 refine bT (rZ hn) fun l u z=>nk z fun z1 z2 z3 z4 z5=>?_
 clear z
 have Uz:=e'.trans z5
 have hl:=gV e
 clear e e' z5 hn
 revert rp z2
 refine cB hl fun b r w=>?_
 obtain rfl:=List.eq_nil_of_length_eq_zero w
 intro rp z2
 obtain rfl:b=.int u:=z2
 injection z1 with z1;subst z1
 refine ay.cB rp fun v O r1 rp=>ay.Bj rp ?_
 refine aP r1 fun t=>?_
 refine call_range_1 (s:={ s with heap:=ai,toks:=tk }) ?_
 exact lB (X:=X) (s:={ s with heap:=ai.push { cls:=.type "range",data:=.fields #[.int 0 tk,.int u t,.int 1 (tk+1)] },toks:=tk+1+1 }) (st:=1) (IsRange.new ai 0 u 1 tk t (tk+1)) (.inl rfl) z3 z4 fun o i O=>hQ _ _ o _ Uz (k.trans (Kept.push _ _ _)) i
theorem jC.WY {f1 f2:Bool}{pos np cp:Pos}{a b:Expr}{lo hi:PE}{kk:Nat} (W:Wd K base) (hk:sc.names.lookup (Str.ofString "range")=some .globalImplicit) (hg:nsIn K mainGlobals (Str.ofString "range")=some none) (hb:bootBuiltins (Str.ofString "range")=some (.type "range"))
  (h:aL prog w base cl D n f1 sc j a lo) (h':aL prog w base cl D n f2 sc j b hi) (RX:notStar a=true) (lL:notStar b=true) :
  jC prog w base cl D n sc j (.Call (.Name (Str.ofString "range") np) [a,b,.Constant (.int 2) kk cp] [] pos) (.sM lo hi 2):=fun A X ec J s x Q E hQ hE aq=>by
 rw[yJ (r:=.cons (.const (.int 2)) .nil) (c:=.int 2) (.inr rfl)] at hQ hE aq
 refine lC W hk hg hb (.cons h (.cons h' (.cons (aL.int (fr:=false)) .nil) lL) RX) ⟨_,_,fun O=>aR RX⟩ (by intro env;rw[aR RX,aR lL];rfl) x (fun ds vs ai tk e k rp=>?_) hE.of (R.aN aq)
 have e':=R.bN (f:=fun ds=>wq (ds.getD 0 .none) (ds.getD 1 .none) 2) e
 have hn:=R.aW aq e
 refine bT (rZ hn) fun l u z=>nk z fun z1 z2 z3 z4 z5=>?_
 clear z
 have Uz:=e'.trans z5
 have hd:ds.getD 2 .none=.int 2:=by
  revert e
  show ((ak D lo J).bind fun v=>((ak D hi J).bind fun w=>.ok [w,.int 2]).bind fun vs=>.ok (v::vs))=_->_
  cases ak D lo J with
  | ok a=>
   cases ak D hi J with
   | ok b=>intro e;injection e with e;rw[<- e];rfl
   | exc z=>intro e;contradiction
   | stuck=>intro e;contradiction
  | exc z=>intro e;contradiction
  | stuck=>intro e;contradiction
 have hl:=gV e
 clear e e' z5 hn
 revert rp z1 z2 hd
 refine cB hl fun a r w=>cB w fun b r w=>cB w fun c r w=>?_
 obtain rfl:=List.eq_nil_of_length_eq_zero w
 intro rp z1 z2 hd
 obtain rfl:a=.int l:=z1
 obtain rfl:b=.int u:=z2
 obtain rfl:c=.int 2:=hd
 refine ay.cB rp fun v O r1 rp=>ay.cB rp fun v2 O r2 rp=>ay.cB rp fun v3 O r3 rp=>ay.Bj rp ?_
 refine aP r1 fun t=>?_
 refine aP r2 fun t2=>?_
 refine aP r3 fun t3=>?_
 refine call_range_3 (s:={ s with heap:=ai,toks:=tk }) (by decide) ?_ (.inl (PyProof.noPylong_small (by decide)))
 exact lB (X:=X) (s:={ s with heap:=ai.push { cls:=.type "range",data:=.fields #[.int l t,.int u t2,.int 2 t3] },toks:=tk }) (st:=2) (IsRange.new ai l u 2 t t2 t3) (.inr rfl) z3 z4 fun o i O=>hQ _ _ o _ Uz (k.trans (Kept.push _ _ _)) i
theorem aL.call {x:PySem.Str}{np pos:Pos}{es:List Expr}{ps:fZ}{f:Fn}{fa:Fn->Addr} (W:Wd K base) (C:wk prog w base cl D n fa) (hk:sc.names.lookup x=some .globalImplicit) (hg:nsIn K mainGlobals x=some (some (.ref (fa f))))
  (hf:∃ c d fd sl,K.lookup (fa f)=some ⟨c,d,.func fd,sl⟩) (h:j7 prog w base cl D n sc j es ps) (rY:∃ (t:Env->Sem Value) (r:Env->List (Bool × Sem Value)),∀ env,starEach es env=(false,t env)::r env)
  (zr:∀ env,(backTo pos (starEach es env)).any (·.1)=false) (hd:(x == ("__debug__":PySem.Str))=false):aL prog w base cl D n false sc j (.Call (.Name x np) es [] pos) (.call f ps):=fun A X ec J s a Q E p aq=>by
 refine dz (jY W a.cx.stays a.ge a.scope hk hg ?_ hd).g
 refine kK hf fun c d fd sl hl=>?_
 refine j6 (o:=⟨c,d,.func fd,sl⟩) (fd:=fd) (zr ec) ?_
 refine bT rY fun t r gg=>?_
 have hs:=h A X ec J s pos a
 rw[gg] at hs ⊢
 refine c5 (hs _ _ ⟨fun ds vs h' tk e k rp=>?_,p.ex.of⟩ (R.aN aq))
 have a':=a.kept k
 exact⟨⟨a'.cx.stays _ _ (W.jy _ _ hl),rfl⟩,C A X { s with heap:=h',toks:=tk } f ds vs a'.cx a'.low a'.new rp _ _ (p.step e k) (R.aW aq e)⟩
end
noncomputable def bz (scope sc:Scope):Scope:=
 { scope with names:=scope.names.map fun (n,k)=>if (k == .free&&sc.kind == .function&&sc.names.lookup n == some .cell) then (n,.cell) else (n,k) }
theorem r5 (scope:Scope) (ec:Env):relabel scope ec=bz scope ec.scope:=rfl
set_option tactic.hygienic true in
theorem lookup_mem {α:Type}{x:PySem.Str}{v:α}:∀ {l:List (PySem.Str × α)},l.lookup x=some v->(x,v)∈l
 | [],h=>by contradiction
 | (y,u)::r,h=>by
  rw[List.lookup_cons] at h
  split at h
  ·rename_i q
   injection h with h;subst h
   have:=beq_iff_eq.mp q
   subst this
   exact .head _
  ·exact .tail _ (lookup_mem h)
set_option tactic.hygienic true in
theorem BD {scope:Scope}{ec:Env} (hf:∀ y,(y,NameKind.free)∈scope.names->∃ c,ec.cells.lookup y=some c) :
  ∃ cs,closureFor scope ec=pure cs/\∀ y c,(y,NameKind.free)∈scope.names->ec.cells.lookup y=some c->cs.lookup y=some c:=by
 have go:∀ (l:List (PySem.Str × NameKind)) (cs:List (PySem.Str × Addr)),(∀ y,(y,NameKind.free)∈l->∃ c,ec.cells.lookup y=some c)->
   ∃ Qj,(forIn l cs fun x __s=>
     have cs:=__s;
     match x with
     | (name,kind)=>
      if (kind == NameKind.free)=true then do
       let __do_lift <- cellOf ec name
       have cs:List (PySem.Str × Addr):=(name,__do_lift)::cs
       pure (ForInStep.yield cs)
      else pure (ForInStep.yield cs))=(pure Qj:Sem _)/\(∀ y c,(y,NameKind.free)∈l->ec.cells.lookup y=some c->Qj.lookup y=some c)/\(∀ y c,cs.lookup y=some c->ec.cells.lookup y=some c->Qj.lookup y=some c):=by
  intro l
  induction l with
  | nil=>exact fun cs O=>⟨cs,rfl,fun y c h=>by simp at h,fun y c h O=>h⟩
  | cons x l ih=>
   intro cs hf
   obtain⟨name,kind⟩:=x
   rw[List.forIn_cons]
   by_cases hk:kind=.free
   ·subst hk
    refine Exists.elim (hf name (.head _)) fun a ha=>?_
    refine Exists.elim (ih ((name,a)::cs) fun y hy=>hf y (.tail _ hy)) fun Qj zz=>b5 zz fun e1 e2 e3=>?_
    have keep:∀ y c,(y=name∨cs.lookup y=some c)->ec.cells.lookup y=some c->Qj.lookup y=some c:=fun y c h1 h2=>by
     refine e3 y c ?_ h2
     rw[List.lookup_cons]
     split
     ·rename_i q
      have:=beq_iff_eq.mp q
      subst this
      rw[ha] at h2;exact h2
     ·rename_i q
      rcases h1 with h1 | h1
      ·subst h1;simp at q
      ·exact h1
    refine⟨Qj,?_,fun y c hm h2=>?_,fun y c h1 h2=>keep y c (.inr h1) h2⟩
    ·simp only[beq_self_eq_true,if_true]
     unfold cellOf
     rw[ha]
     exact e1
    ·rcases List.mem_cons.mp hm with q | q
     ·exact keep y c (.inl (Prod.mk.inj q).1) h2
     ·exact e2 y c q h2
   ·refine Exists.elim (ih cs fun y hy=>hf y (.tail _ hy)) fun Qj zz=>b5 zz fun e1 e2 e3=>?_
    refine⟨Qj,?_,fun y c hm h2=>?_,e3⟩
    ·have:(kind == NameKind.free)=false:=by simpa using hk
     simp only[this,Bool.false_eq_true,if_false]
     exact e1
    ·rcases List.mem_cons.mp hm with q | q
     ·injection q with q zq;subst q zq;exact absurd rfl hk
     ·exact e2 y c q h2
 refine Exists.elim (go scope.names [] hf) fun cs zz=>b5 zz fun e1 e2 O=>?_
 refine⟨cs,?_,e2⟩
 show (forIn scope.names ([]:List (PySem.Str × Addr)) _ >>= fun cs=>pure cs)=pure cs
 exact (congrArg (· >>= fun cs=>pure cs) e1).trans rfl
theorem Hu {prog:Program}{w:World}{A:Around}{E:Value->Shared->Prop}{X:Addr->Prop}{s:Shared}{it:Addr}{ds:List V}{Q:Value->Shared->Prop} (x:bh s.heap X it ds) (h:Q (.ref it) s):wpAny (model prog w) A (pyIter (.ref it)) Q E s:=by
 cases x with
 | list y l n r=>exact wpAny_pyIter_listiter y h
 | str y=>exact wpAny_pyIter_striter_ascii y h
 | bytes y=>exact KBw.pyIter_self y h
 | range y=>exact wpAny_pyIter_rangeiter y h
theorem Rep.more {X Y:Addr->Prop}{h:Heap}{d:V}{v:Value} (r:Rep (seen X h) d v) (k:∀ b,Y b->X b∨h.get? b=none):Rep (seen Y h) d v:=
 r.mono fun b o e O=>⟨e.1,fun y=>(k b y).elim e.2 fun q=>by have e1:=e.1;rw[q] at e1;contradiction⟩
theorem Rep.extBut {X:Addr->Prop}{h h':Heap}{a:Addr}{d:V}{v:Value} (r:Rep (seen X h) d v) (t:Heap.ExtBut a h h') (x:X a):Rep (seen X h') d v:=
 r.mono fun b o e O=>⟨t b o (fun q=>e.2 (q ▸ x)) e.1,e.2⟩
theorem ay.extBut {X:Addr->Prop}{h h':Heap}{a:Addr}{d:List V}{v:List Value} (r:ay (seen X h) d v) (t:Heap.ExtBut a h h') (x:X a):ay (seen X h') d v:=
 r.mono fun b o e O=>⟨t b o (fun q=>e.2 (q ▸ x)) e.1,e.2⟩
theorem bh.extBut {h h':Heap}{X:Addr->Prop}{it a:Addr}{ds:List V} (x:bh h X it ds) (t:Heap.ExtBut a h h') (aq:it≠a) (xa:X a):bh h' X it ds:=by
 cases x with
 | list y l n r=>
  refine Exists.elim y fun o zz=>aB zz fun e c=>?_
  refine Exists.elim l fun o' zz=>aB zz fun e' c'=>?_
  exact .list ⟨o,t _ _ aq e,c⟩ ⟨o',t _ _ (fun q=>n (q ▸ xa)) e',c'⟩ n (r.extBut t xa)
 | str y=>refine Exists.elim y fun o zz=>aB zz fun e c=>?_;exact .str ⟨o,t _ _ aq e,c⟩
 | bytes y=>refine Exists.elim y fun o zz=>aB zz fun e c=>?_;exact .bytes ⟨o,t _ _ aq e,c⟩
 | range y=>exact .range (t _ _ aq y)
theorem bh.more {X Y:Addr->Prop}{h:Heap}{it:Addr}{ds:List V} (x:bh h X it ds) (k:∀ b,Y b->X b∨h.get? b=none):bh h Y it ds:=by
 cases x with
 | list y l n r=>
  refine Exists.elim (id l) fun o' zz=>aB zz fun e' c'=>?_
  exact .list y l (fun q=>(k _ q).elim n fun z=>by rw[e'] at z;contradiction) (r.mono fun b o e O=>⟨e.1,fun y=>(k b y).elim e.2 fun q=>by have e1:=e.1;rw[q] at e1;contradiction⟩)
 | str y=>exact .str y
 | bytes y=>exact .bytes y
 | range y=>exact .range y
set_option tactic.hygienic true in
theorem KD {base:Heap}{n:Nat}{A:Around}{X Y:Addr->Prop}{sc scope:Scope}{j cap:List (PySem.Str × Nat)}{ec:Env}{J:Ρ}{h₀ h:Heap}{x:PySem.Str}{k:Nat}{C:Addr}{cs:List (PySem.Str × Addr)}{m:PySem.Str->Option Value}{d:V}{v:Value}
  (a:At base n A X none sc j ec J h₀) (kp:Kept base h₀ h) (hY:∀ b,Y b->X b∨(h₀.get? b=none/\∃ o,h.get? b=some o)) (hC:h.Ns C m) (hm:m x=some v) (hr:Rep (seen Y h) d v)
  (d9:scope.kind=.function) (du:∀ y∈scope.names,y.2≠.cell) (hx:scope.names.lookup x=some .local) (mL:∀ y,(y,NameKind.free)∈scope.names->sc.names.lookup y=some .cell)
  (L7:∀ y c,(y,NameKind.free)∈scope.names->ec.cells.lookup y=some c->cs.lookup y=some c)
  (BF:∀ y i,cap.lookup y=some i->j.lookup y=some i/\i≠k/\(y,NameKind.free)∈scope.names/\(bz scope sc).names.lookup y=some .cell) :
  At base n A Y none (bz scope sc) ((x,k)::cap) (compEnvC scope cs C ec) (J.set k (some d)) h:=by
 have S5:=a.scope
 have ha:=a.kept kp
 refine⟨fun y i d' e1 e2=>?_,ha.cx,⟨?_,ha.ge.globals,ha.ge.builtins,fun y hy=>?_⟩,?_,fun b hb=>?_,fun b hb=>?_⟩
 ·rw[List.lookup_cons] at e1
  split at e1
  ·rename_i q
   have:=beq_iff_eq.mp q
   subst this
   cases e1
   rw[List.getElem?_set_self'] at e2
   have hd:d'=d:=by
    cases q2:J[k]? with
    | none=>rw[q2] at e2;cases e2
    | some z=>rw[q2] at e2;cases e2;rfl
   subst hd
   exact⟨v,.inl ⟨lookup_relabel_local hx,m,hC,hm⟩,hr⟩
  ·refine iV (BF y i e1) fun f1 f2 f3 f4=>?_
   rw[List.getElem?_set_ne (Ne.symm f2)] at e2
   refine Exists.elim (a.rel y i d' f1 e2) fun u zz=>aB zz fun hu ru=>?_
   rcases hu with ⟨q,_⟩ | ⟨_,c,UA,hc⟩
   ·have:=mL y f3
    unfold Env.kindOf at q
    rw[S5,this] at q;cases q
   ·refine⟨u,.inr ⟨.inl ?_,c,L7 y c f3 UA,kp.cell hc⟩,kp.rep (Rep.more ru fun b y=>(hY b y).imp id And.left)⟩
    show (relabel scope ec).names.lookup y=some .cell
    rw[r5,S5];exact f4
 ·show (relabel scope ec).kind=.function
  exact d9
 ·have yt:(y,NameKind.free)∈scope.names:=by
   rcases hy with hy | hy
   ·have:=lookup_mem hy
    refine Exists.elim (List.mem_map.mp this) fun mj zz=>aB zz fun h1 h2=>?_;obtain⟨n',k'⟩:=mj
    dsimp only at h2
    split at h2
    ·rename_i q
     cases h2
     simp only[Bool.and_eq_true,beq_iff_eq] at q
     rw[<- q.1.1];exact h1
    ·cases h2;exact absurd rfl (du _ h1)
   ·have:=lookup_mem hy
    refine Exists.elim (List.mem_map.mp this) fun mj zz=>aB zz fun h1 h2=>?_;obtain⟨n',k'⟩:=mj
    dsimp only at h2
    split at h2
    ·cases h2
    ·cases h2;exact h1
  have h3:=mL y yt
  refine Exists.elim (a.ge.cells y (.inl (by unfold Env.kindOf;rw[S5];exact h3))) fun c hc=>?_
  exact⟨c,L7 y c yt hc⟩
 ·show relabel scope ec=_
  rw[r5,S5]
 ·rcases hY b hb with hb | hb
  ·exact ha.low b hb
  ·exact hb.2
 ·rcases hY b hb with hb | hb
  ·exact ha.new b hb
  ·cases q:base.get? b with
   | none=>rfl
   | some o=>have:=a.cx.stays b o q;rw[hb.1] at this;cases this
section
variable (prog:Program) (w:World) (base:Heap) (cl:dB->Value) (D:Fn->List V->R V) (n:Nat)
def tg (sc:Scope) (j:List (PySem.Str × Nat)) (ifs:List Expr) (p:PE):Prop:=
 ∀ (A:Around) (X:Addr->Prop) (ec:Env) (J:Ρ) (s:Shared),At base n A X none sc j ec J s.heap->Ov prog w base cl A (forIn ifs true fun c r=>if r=true then do let ok <- isTrue c ec (eval c ec);pure (ForInStep.yield ok) else pure (ForInStep.yield r)) s ((ak D p J).bind V.truth)
end
section
variable {prog:Program}{w:World}{base:Heap}{cl:dB->Value}{A:Around}{X:Addr->Prop}{s:Shared}{D:Fn->List V->R V}{n:Nat}{sc:Scope}{j:List (PySem.Str × Nat)}{K:Frag}
theorem tg.nil:tg prog w base cl D n sc j [] (.const (.bool true)):=fun A X ec J s x Q E p aq=>by
 exact yB (p.ok true s.heap s.toks rfl (.refl _ _))
theorem tg.one {c:Expr}{p:PE} (h:gC prog w base cl D n sc j c p):tg prog w base cl D n sc j [c] p:=fun A X ec J s x Q E p aq=>yC (h A X ec J s x Q E p aq)
theorem BG {step:V->R (Option V)}{d:V}{ds:List V} (h:eG step (d::ds)≠.stuck):∃ o,step d=.ok o/\eG step (d::ds)=(eG step ds).bind fun ys=>.ok (match o with | some y=>y::ys | none=>ys):=by
 rw[lR] at h ⊢
 cases q:step d with
 | ok o=>rw[q] at h;exact⟨o,rfl,rfl⟩
 | exc z=>rw[q] at h;exact absurd rfl h
 | stuck=>rw[q] at h;exact absurd rfl h
theorem uK {f1:Bool}{elt iter:Expr}{x:PySem.Str}{px pos RZ:Pos}{ifs:List Expr}{scope:Scope}{pM pc:PE}{Ma:uT}{k:Nat}{cap:List (PySem.Str × Nat)}{use:Option (Value->Sem Unit)}
  (hit:jC prog w base cl D n sc j iter Ma) (hc:tg prog w base cl D n (bz scope sc) ((x,k)::cap) ifs pc) (he:aL prog w base cl D n f1 (bz scope sc) ((x,k)::cap) elt pM)
  (d9:scope.kind=.function) (du:∀ y∈scope.names,y.2≠.cell) (hx:scope.names.lookup x=some .local) (ly:∀ y∈scope.names,y.2=.local->scope.names.lookup y.1=some .local)
  (mL:∀ y,(y,NameKind.free)∈scope.names->sc.names.lookup y=some .cell)
  (BF:∀ y i,cap.lookup y=some i->j.lookup y=some i/\i≠k/\(y,NameKind.free)∈scope.names/\(bz scope sc).names.lookup y=some .cell)
  (hs:∀ env x,foldedSetIterable iter env x=pure x) {ec:Env}{J:Ρ} (a:At base n A X none sc j ec J s.heap) {Q E:Value->Shared->Prop}
  (pG:∀ done h' tk aaG C,ak D (.comp pM k Ma pc) J=.ok (.list done)->Kept base s.heap h'->b0 h' X aaG (.list done)->s.heap.get? aaG=none->s.heap.get? C=none->aaG≠C->(∃ m,h'.Ns C m)->compPost (model prog w) A E use Q (.ref aaG) C (.ok .next) { s with heap:=h',toks:=tk })
  (hE:Ex base cl s (ak D (.comp pM k Ma pc) J) E) (aq:ak D (.comp pM k Ma pc) J≠.stuck) :
  aK (model prog w) A (comprehension (.ListComp elt [⟨.Name x px,iter,ifs,0⟩] scope pos) scope ec RZ (newList []) false (eval iter ec) use) Q E s:=by
 rw[CG] at pG hE aq
 have R3:∀ y,(y,NameKind.free)∈scope.names->∃ c,ec.cells.lookup y=some c:=fun y hy=>a.ge.cells y (.inl (by unfold Env.kindOf;rw[a.scope];exact mL y hy))
 refine Exists.elim (BD R3) fun cs zz=>aB zz fun Kq L7=>?_
 refine pK (use:=use) (hs ec) Kq d9 ly (hit A X ec J s a _ _ (fun xs h₀ o tk e OG hi=>?_) hE.of (R.aN aq))
 have ao:=R.aW aq e
 have j3:=R.mK ao
 rw[R.bN e,R.guard,j3,if_pos rfl] at pG
 rw[R.guard,j3,if_pos rfl] at ao
 simp only[decide_eq_true_eq] at j3
 have UB:=a.kept OG
 generalize UC:(fun x=>(ak D pc (J.set k (some x))).bind fun t=>t.truth.bind fun b=>if b=true then (ak D pM (J.set k (some x))).bind fun y=>R.ok (some y) else R.ok Option.none)=step at pG ao
 refine wpAny_newObj_type (wpAny_newFunctionEnv du (by intro y hy;simp at hy) (fun cU Mb S6=>?_) d9)
 generalize Qk:h₀.push o=H1 at hi Mb S6 ⊢
 generalize Ql:H1.push { cls:=.type "list",dict:=none,data:=.seq ([]:List Value).toArray }=H2 at Mb S6 ⊢
 have ZD:Kept base h₀ H1:=Qk ▸ Kept.push _ _ _
 have Yb:Kept base H1 H2:=Ql ▸ Kept.push _ _ _
 have ZE:h₀.objs.size<H1.objs.size:=by rw[<- Qk,Heap.size_push];lia
 have V4:H1.objs.size<H2.objs.size:=by rw[<- Ql,Heap.size_push];lia
 have nI:h₀.get? h₀.objs.size=none:=bS _
 have nD:h₀.get? H1.objs.size=none:=Heap.get?_none_of_le (Nat.le_of_lt ZE)
 have nC:h₀.get? H2.objs.size=none:=Heap.get?_none_of_le (by lia)
 have Yc:H2.get? H2.objs.size=none:=bS _
 have Hq:Heap.ExtBut H2.objs.size H2 cU:=fun b ob hb q=>S6.extBut b ob hb (Heap.get?_push_of_some _ q)
 have Dm:Kept base H2 cU:=(Kept.refl base H2).extBut Yc Hq
 have tf:Kept base h₀ cU:=ZD.trans (Yb.trans Dm)
 have UD:H1.objs.size≠h₀.objs.size:=by lia
 have UE:H2.objs.size≠h₀.objs.size:=by lia
 have Hv:H1.objs.size≠H2.objs.size:=Nat.ne_of_lt V4
 generalize Yd:H1.objs.size=aaG at UD Hv nD ⊢
 generalize hCe:H2.objs.size=C at UE Hv nC Yc Hq Mb ⊢
 generalize hIe:h₀.objs.size=I at UD UE nI hi ⊢
 generalize UG:plus (plus X aaG) C=Y
 have YD:Y aaG:=by rw[<- UG];exact .inl (.inr rfl)
 have YC:Y C:=by rw[<- UG];exact .inr rfl
 have Ye:∀ b,Y b->X b∨b=aaG∨b=C:=fun b hb=>by
  rw[<- UG] at hb
  rcases hb with (hb | hb) | hb
  ·exact .inl hb
  ·exact .inr (.inl hb)
  ·exact .inr (.inr hb)
 have hXY:∀ b,X b->Y b:=fun b hb=>by rw[<- UG];exact .inl (.inl hb)
 have ZF:H1.get? aaG=none:=Yd ▸ bS _
 have ZG:H1.get? C=none:=Heap.get?_none_of_le (by lia)
 have Dn:bh cU Y I xs:=Dm.iter (Yb.iter (hi.more fun b hb=>(Ye b hb).imp id fun q=>q.elim (fun q=>q ▸ ZF) fun q=>q ▸ ZG))
 have UH:PlainL cU aaG #[]:=⟨_,0,Hq _ _ Hv (Ql ▸ Yd ▸ Heap.get?_push_size _ rfl),rfl,rfl,rfl⟩
 have loop:∀ dG:Shared,dG={ s with heap:=cU,toks:=tk+([]:List (PySem.Str × Value)).length }->
   b8 (model prog w) A (.compLoop (.ListComp elt [⟨.Name x px,iter,ifs,0⟩] scope pos) 0 (.ref I) (.ref aaG) (compEnvC scope cs C ec)) (compPost (model prog w) A E use Q (.ref aaG) C) dG:=by
  rintro dG rfl
  refine Bv (fun N s'=>∃ (ds done:List V) (ys:Array Value) (m:PySem.Str->Option Value) (h:Heap) (t:Nat),s'={ s with heap:=h,toks:=t }/\N=ds.length/\Kept base h₀ h/\bh h Y I ds/\h.Ns C m/\
   PlainL h aaG ys/\ay (seen Y h) done ys.toList/\(eG step ds).bind (fun r=>.ok (done++r))=eG step xs/\done.length+ds.length<=lim) ?_ xs.length ?_
  ·rintro N _ ⟨ds,done,ys,m,h,t,rfl,rfl,kh,ih,nh,lh,rh,eh,hl⟩
   have ah:=UB.kept kh
   have Qm:lim<=16777216:=by decide
   refine eA (id nh) fun on en pn zz=>b5 zz fun Yg Yh Yi=>?_
   cases ds with
   | nil=>
    refine yF (s:={ s with heap:=h,toks:=t }) ah.cx.held ih fun h' th=>?_
    have ZI:=th.kept kh nI
    have l':PlainL h' aaG ys:=lh.extBut (fun b o hb q=>th.other b o hb q) UD
    have r':ay (seen (plus X aaG) h') done ys.toList:=(th.j5 rh).less fun b hb=>by rw[<- UG];exact .inl hb
    have UI:eG step xs=.ok done:=by rw[<- eh];simp[Ir,lR,R.bind]
    refine bT l' fun oD UJ zz=>iV zz fun eD cD pD dD=>?_
    exact pG done h' t aaG C (by rw[UI];rfl) (OG.trans ZI) ⟨oD,ys,UJ,eD,cD,pD,dD,by simp at hl;lia,r'⟩ (OG.missing nD) (OG.missing nC) Hv ⟨m,on,en,pn,th.other _ _ UE Yg,Yh,Yi⟩
   | cons d ds=>
    have WZ:eG step (d::ds)≠.stuck:=fun q=>by rw[q] at eh;exact (R.aN ao) eh.symm
    refine Exists.elim (BG WZ) fun oo zz=>aB zz fun ZJ Yj=>?_
    have nJ:=ZJ
    rw[<- UC] at nJ
    refine uJ (s:={ s with heap:=h,toks:=t }) ih fun ai W0 v th UK rv=>?_
    have UL:=th.kept kh nI
    have UM:ai.Ns C m:=⟨on,en,pn,th.other _ _ UE Yg,Yh,Yi⟩
    refine wpAny_assign_Name (wpAny_storeName_local (s:={ s with heap:=ai,toks:=W0 }) (lookup_relabel_local hx) UM (fun aD Dp sb=>?_) (by simp[compEnvC,relabel,d9]))
    have KG:=UL.extBut nC sb.extBut
    have Qn:PlainL aD aaG ys:=(lh.extBut (fun b o hb q=>th.other b o hb q) UD).extBut sb.extBut Hv
    have KH:=(th.j5 rh).extBut sb.extBut YC
    have Qo:=UK.extBut sb.extBut (Ne.symm UE) YC
    have jy:∀ {bE:Heap},Kept base aD bE->At base n A Y none (bz scope sc) ((x,k)::cap) (compEnvC scope cs C ec) (J.set k (some d)) bE:=fun gU=>
     KD (Y:=Y) UB (KG.trans gU) (fun b hb=>(Ye b hb).imp id fun q=>by
      have lD:=Qn
      refine bT lD fun oD O zz=>aB zz fun eD O=>?_
      refine eA (id Dp) fun oC O O zz=>aB zz fun eC O=>?_
      rcases q with q | q
      ·subst q;exact⟨nD,(gU.same eD).imp fun O z=>z.1⟩
      ·subst q;exact⟨nC,(gU.same eC).imp fun O z=>z.1⟩) (gU.ns Dp) (if_pos rfl) (gU.rep (rv.extBut sb.extBut YC)) d9 du hx mL L7 BF
    refine hc A Y _ (J.set k (some d)) _ (jy (.refl _ _)) _ _ ⟨fun b bE UN eb gU=>?_,fun z O O O q=>?_⟩ (fun q=>?_)
    ·have Qp:PlainL bE aaG ys:=by
      refine bT Qn fun oD UJ zz=>iV zz fun eD cD pD dD=>?_
      exact⟨oD,UJ,gU.get eD (cC dD),cD,pD,dD⟩
     have lL:(if b=true then (ak D pM (J.set k (some d))).bind fun y=>R.ok (some y) else R.ok Option.none)=.ok oo:=by
      rw[<- nJ]
      dsimp only
      cases q:ak D pc (J.set k (some d)) with
      | ok tv=>rw[q] at eb;show _=(V.truth tv).bind _;rw[show V.truth tv=.ok b from eb];rfl
      | exc z=>rw[q] at eb;contradiction
      | stuck=>rw[q] at eb;cases eb
     cases b with
     | false=>
      rw[if_neg (by decide)] at lL ⊢
      injection lL with lL;subst lL
      refine⟨ds.length,by simp,ds,done,ys,_,bE,UN,rfl,rfl,KG.trans gU,gU.iter Qo,gU.ns Dp,Qp,gU.j5 KH,?_,by simp at hl;lia⟩
      rw[<- eh,Yj]
      cases eG step ds<;>rfl
     | true=>
      rw[if_pos rfl] at lL ⊢
      refine he A Y _ (J.set k (some d)) { s with heap:=bE,toks:=UN } (jy gU) _ _ ⟨fun y v' cU UO ey tf ry O=>?_,fun z O O O q=>?_⟩ (fun q=>?_)
      ·rw[ey] at lL
       injection lL with lL;subst lL
       have UQ:PlainL cU aaG ys:=by
        refine bT Qp fun oD UJ zz=>iV zz fun eD cD pD dD=>?_
        exact⟨oD,UJ,tf.get eD (cC dD),cD,pD,dD⟩
       have OI:=gU.trans tf
       have j4:=KH.length
       refine list_append_plainL (s:={ s with heap:=cU,toks:=UO }) UQ (fun wg UR yK=>?_) (by have:=bu;simp at j4 hl;lia)
       refine⟨ds.length,by simp,ds,done++[y],_,(fun z=>if z=x then some v else m z),wg,UO,rfl,rfl,?_,?_,?_,UR,?_,?_,by simp at hl ⊢;lia⟩
       ·exact (KG.trans OI).extBut nD yK.extBut
       ·exact (OI.iter Qo).extBut yK.extBut (Ne.symm UD) YD
       ·refine eA (OI.ns Dp) fun oC ZK pC zz=>b5 zz fun c1 c2 c3=>?_
        exact⟨oC,ZK,pC,yK.extBut _ _ (Ne.symm Hv) c1,c2,c3⟩
       ·rw[Array.toList_push]
        exact ((OI.j5 KH).extBut yK.extBut YD).append (.cons (ry.extBut yK.extBut YD) .nil)
       ·rw[<- eh,Yj]
        cases eG step ds<;>simp[R.bind]
      ·rw[q] at lL;contradiction
      ·rw[q] at lL;contradiction
    ·exfalso
     dsimp only at nJ
     cases q2:ak D pc (J.set k (some d)) with
     | ok tv=>rw[q2] at q nJ;rw[R.bN rfl,show V.truth tv=.exc z from q] at nJ;contradiction
     | exc z'=>rw[q2] at nJ;contradiction
     | stuck=>rw[q2] at nJ;contradiction
    ·dsimp only at nJ
     cases q2:ak D pc (J.set k (some d)) with
     | ok tv=>rw[q2] at q nJ;rw[R.bN rfl,show V.truth tv=.stuck from q] at nJ;contradiction
     | exc z'=>rw[q2] at nJ;contradiction
     | stuck=>rw[q2] at nJ;contradiction
  ·exact⟨xs,[],#[],_,cU,_,rfl,rfl,tf,Dn,Mb,UH,.nil,by cases eG step xs<;>rfl,by simpa using j3⟩
 exact yA (loop _ rfl) (Hu Dn (loop _ rfl))
theorem b0.extBut {h h':Heap}{a b:Addr}{ds:List V} (o:b0 h X a (.list ds)) (t:Heap.ExtBut b h h') (aq:a≠b) (hb:∃ m,h.Ns b m):b0 h' X a (.list ds):=by
 refine eA o fun o vs n zz=>zl zz fun e c dn d l r=>?_
 refine⟨o,vs,n,t _ _ aq e,c,dn,d,l,r.mono fun z oz q sh=>⟨t _ _ (fun y=>?_) q.1,q.2⟩⟩
 subst y
 refine kK hb fun O on O O zz=>b5 zz fun h1 h2 O=>?_
 have h3:=q.1
 rw[h1] at h3;injection h3 with h3;subst h3
 rcases sh with ⟨_,_,w⟩ | ⟨_,_,w⟩<;>(rw[h2] at w;contradiction)
theorem OJ {fr f1:Bool}{elt iter:Expr}{x:PySem.Str}{px pos:Pos}{ifs:List Expr}{scope:Scope}{pM pc:PE}{Ma:uT}{k:Nat}{cap:List (PySem.Str × Nat)}
  (hit:jC prog w base cl D n sc j iter Ma) (hc:tg prog w base cl D n (bz scope sc) ((x,k)::cap) ifs pc) (he:aL prog w base cl D n f1 (bz scope sc) ((x,k)::cap) elt pM)
  (d9:scope.kind=.function) (du:∀ y∈scope.names,y.2≠.cell) (hx:scope.names.lookup x=some .local) (ly:∀ y∈scope.names,y.2=.local->scope.names.lookup y.1=some .local)
  (mL:∀ y,(y,NameKind.free)∈scope.names->sc.names.lookup y=some .cell)
  (BF:∀ y i,cap.lookup y=some i->j.lookup y=some i/\i≠k/\(y,NameKind.free)∈scope.names/\(bz scope sc).names.lookup y=some .cell)
  (hs:∀ env x,foldedSetIterable iter env x=pure x):aL prog w base cl D n fr sc j (.ListComp elt [⟨.Name x px,iter,ifs,0⟩] scope pos) (.comp pM k Ma pc):=fun A X ec J s a Q E p aq=>by
 refine uK (use:=none) hit hc he d9 du hx ly mL BF hs a (fun done h' tk aaG C e kp o nD nC V4 hm=>?_) p.ex aq
 obtain⟨m,Dg⟩:=id hm
 refine⟨m,Dg,fun L8 sb=>?_⟩
 have o':=o.extBut sb.extBut V4 hm
 exact p.ok _ _ L8 tk e (kp.extBut nC sb.extBut) (o'.rep (a.low.none nD)) fun O=>⟨_,rfl,nD,o'⟩
end
structure Mod (b:Addr) (h h':Heap):Prop where
 other:Heap.ExtBut b h h'
 here:∃ o o',h.get? b=some o/\h'.get? b=some o'/\(∀ vs,o.data≠.fields vs)/\(∀ v,o.data≠.cell v)/\(book o->book o')
section
variable {base h₀ h h':Heap}{b:Addr}{X:Addr->Prop}
theorem Mod.kept (m:Mod b h h') (k:Kept base h₀ h) (n:h₀.get? b=none):Kept base h₀ h':=k.extBut n m.other
theorem Mod.rep {d:V}{v:Value} (m:Mod b h h') (x:X b∨∃ o,h.get? b=some o/\book o) (r:Rep (seen X h) d v):Rep (seen X h') d v:=
 r.mono fun a o e s=>⟨m.other a o (fun q=>by
  subst q
  rcases x with x | ⟨o',e',x⟩
  ·exact e.2 x
  ·have e1:=e.1;rw[e'] at e1;injection e1 with e1;subst e1;exact b7 s x) e.1,e.2⟩
theorem Mod.j5 {d:List V}{v:List Value} (m:Mod b h h') (x:X b∨∃ o,h.get? b=some o/\book o) (r:ay (seen X h) d v):ay (seen X h') d v:=
 r.mono fun a o e s=>⟨m.other a o (fun q=>by
  subst q
  rcases x with x | ⟨o',e',x⟩
  ·exact e.2 x
  ·have e1:=e.1;rw[e'] at e1;injection e1 with e1;subst e1;exact b7 s x) e.1,e.2⟩
theorem Mod.own {a:Addr}{d:V} (m:Mod b h h') (hb:∃ o,h.get? b=some o/\book o) (r:b0 h X a d):b0 h' X a d:=by
 have aq:∀ o,h.get? a=some o->¬ book o->a≠b:=fun o e n q=>by
  refine Exists.elim hb fun o' zz=>aB zz fun e' x=>?_
  rw[q,e'] at e;injection e with e;subst e;exact n x
 cases d<;>first | exact r.elim | skip
 ·refine eA r fun o y n zz=>nk zz fun e c dn hd r=>?_
  exact⟨o,y,n,m.other _ _ (aq _ e (dM hd)) e,c,dn,hd,r⟩
 ·refine eA r fun o vs n zz=>zl zz fun e c dn hd l r=>?_
  exact⟨o,vs,n,m.other _ _ (aq _ e (cC hd)) e,c,dn,hd,l,m.j5 (.inr hb) r⟩
theorem Mod.chain {n:Nat}{a:Addr} (m:Mod b h h') (c:Chain h n a):Chain h' n a:=c.keeps fun O z o O cz e O O=>m.other z o (fun q=>by
 subst q
 refine bT m.here fun pH r7 zz=>iV zz fun e1 O f O=>?_
 refine eA cz.get fun OL vs O zz=>nk zz fun e3 O O d O=>?_
 rw[e1] at e3;injection e3 with e3;subst e3;exact f _ d) e
theorem Mod.held {A:Around} (m:Mod b h h') (x:cy A h):cy A h':=by
 rcases x with x | ⟨a,n,x,c⟩
 ·exact .inl x
 ·exact .inr ⟨a,n,x,m.chain c⟩
theorem Mod.frames (m:Mod b h h'):∀ {l:List Env},Frames base h l->Frames base h' l
 | [],_=>trivial
 | _::_,⟨hk,⟨L,o,hf,hn,ho,hc,hd⟩,hr⟩=>by
  refine⟨hk,?_,m.frames hr⟩
  by_cases q:L=b
  ·subst q
   refine bT m.here fun pH r7 zz=>nk zz fun e1 e2 O O f=>?_
   rw[ho] at e1;injection e1 with e1;subst e1
   exact⟨L,r7,hf,hn,e2,f hc,(f hc).eK⟩
  ·exact⟨L,o,hf,hn,m.other _ _ q ho,hc,hd⟩
theorem Mod.low (m:Mod b h h') (x:ni X h):ni X h':=fun a y=>by
 refine Exists.elim (x a y) fun o e=>?_
 by_cases q:a=b
 ·subst q;refine bT m.here fun O r7 zz=>b5 zz fun O e2 O=>?_;exact⟨r7,e2⟩
 ·exact⟨o,m.other _ _ q e⟩
theorem Mod.cx {A:Around}{n:Nat} (m:Mod b h h') (hb:base.get? b=none) (c:Cx base A h n):Cx base A h' n:=
 ⟨let ⟨l,a,f⟩:=c.stack;⟨l,a,m.frames f⟩,fun z o e=>m.other z o (fun q=>by rw[q,hb] at e;contradiction) (c.stays z o e),m.held c.held,c.depth,c.units⟩
theorem Mod.ns {a:Addr}{f:PySem.Str->Option Value} (m:Mod b h h') (aq:a≠b) (n:h.Ns a f):h'.Ns a f:=by
 refine eA n fun o es ep zz=>b5 zz fun h1 h2 r=>?_
 exact⟨o,es,ep,m.other _ _ aq h1,h2,r⟩
theorem Mod.cell {a:Addr}{v:Option Value} (m:Mod b h h') (n:h.IsCell a v):h'.IsCell a v:=by
 refine Exists.elim n fun o zz=>aB zz fun h1 h2=>?_
 refine⟨o,m.other _ _ (fun q=>?_) h1,h2⟩
 subst q
 refine bT m.here fun pH O zz=>nk zz fun e1 O O f O=>?_
 rw[h1] at e1;injection e1 with e1;subst e1;exact f _ h2
theorem cV.rep {ai:Heap}{d:V}{v:Value} (k:cV base ai h h') (r:Rep (seen X h) d v):Rep (seen X h') d v:=
 r.mono fun a o e s=>⟨k.get e.1 (b7 s) (by rcases s with ⟨_,_,q⟩ | ⟨_,_,q⟩<;>(intro vs z;rw[q] at z;contradiction)),e.2⟩
theorem cV.ns {ai:Heap}{a:Addr}{f:PySem.Str->Option Value} (k:cV base ai h h') (n:h.Ns a f):h'.Ns a f:=by
 refine eA n fun o es ep zz=>b5 zz fun h1 h2 r=>?_
 refine Exists.elim (k.same h1 (by intro vs q;rw[h2] at q;contradiction)) fun o' zz=>b5 zz fun e' d' O=>?_
 exact⟨o',es,ep,e',d'.trans h2,r⟩
theorem cV.cell {ai:Heap}{a:Addr}{v:Option Value} (k:cV base ai h h') (n:h.IsCell a v):h'.IsCell a v:=by
 refine Exists.elim n fun o zz=>aB zz fun h1 h2=>?_
 refine Exists.elim (k.same h1 (by intro vs q;rw[h2] at q;contradiction)) fun o' zz=>b5 zz fun e' d' O=>?_
 exact⟨o',e',d'.trans h2⟩
end
theorem R4 {h:Heap}{a:Addr}{f g:PySem.Str->Option Value} (x:h.Ns a f) (y:h.Ns a g):f=g:=by
 refine eA x fun o es ep zz=>iV zz fun h1 h2 O h3=>?_
 refine eA y fun o' es' ep' zz=>iV zz fun V5 pF O ZL=>?_
 rw[h1] at V5;injection V5 with V5;subst V5
 rw[h2] at pF;injection pF with pF;subst pF
 funext z
 rw[<- h3 z,ZL z]
theorem b0.there {h:Heap}{X:Addr->Prop}{a:Addr}{d:V} (r:b0 h X a d):∃ o,h.get? a=some o/\¬ book o/\∀ vs,o.data≠.fields vs:=by
 cases d<;>first | exact r.elim | skip
 ·refine eA r fun o y n zz=>nk zz fun e c dn hd r=>?_;exact⟨o,e,dM hd,by intro _ q;rw[hd] at q;contradiction⟩
 ·refine eA r fun o vs n zz=>zl zz fun e c dn hd l r=>?_;exact⟨o,e,cC hd,by intro _ q;rw[hd] at q;contradiction⟩
theorem b0.plain {h:Heap}{X:Addr->Prop}{a:Addr}{d:V} (r:b0 h X a d):∃ o,h.get? a=some o/\(∀ vs,o.data≠.fields vs)/\∀ v,o.data≠.cell v:=by
 cases d<;>first | exact r.elim | skip
 ·refine eA r fun o y n zz=>nk zz fun e c dn hd r=>?_;exact⟨o,e,(by intro _ q;rw[hd] at q;contradiction),by intro _ q;rw[hd] at q;contradiction⟩
 ·refine eA r fun o vs n zz=>zl zz fun e c dn hd l r=>?_;exact⟨o,e,(by intro _ q;rw[hd] at q;contradiction),by intro _ q;rw[hd] at q;contradiction⟩
structure St (base:Heap) (n:Nat) (A:Around) (X:Addr->Prop) (ow:Owner) (sc:Scope) (j:List (PySem.Str × Nat)) (ec:Env) (J:Ρ) (h₀ h:Heap):Prop where
 at':At base n A X ow sc j ec J h
 top:∃ outer,A.frames=some (ec::outer)
 fr:ec.frame=some ec.locals
 ns:∃ m,h.Ns ec.locals m
 kp:Kept base h₀ h
 nL:h₀.get? ec.locals=none
 own:∀ aaH a,ow=some (aaH,a)->h₀.get? a=none/\¬ X a/\base.get? a=none/\∃ o,h.get? a=some o/\¬ book o/\∀ vs,o.data≠.fields vs
 lo:ni X h₀
 held:cy A h₀
 stays:base.StaysIn h₀
section
variable {base:Heap}{n:Nat}{A:Around}{X:Addr->Prop}{ow:Owner}{sc:Scope}{j:List (PySem.Str × Nat)}{ec:Env}{J:Ρ}{h₀ h h':Heap}
theorem St.frames (x:St base n A X ow sc j ec J h₀ h):∃ outer,A.frames=some (ec::outer)/\Frames base h (ec::outer):=by
 refine Exists.elim x.top fun outer e=>?_
 refine Exists.elim x.at'.cx.stack fun l zz=>aB zz fun e' f=>?_
 rw[e] at e';injection e' with e';subst e'
 exact⟨outer,e,f⟩
theorem St.mM (x:St base n A X ow sc j ec J h₀ h):base.get? ec.locals=none/\∃ o,h.get? ec.locals=some o/\book o:=by
 refine Exists.elim x.frames fun outer zz=>iV zz fun e O mj O=>?_;obtain⟨L,o,hf,hn,ho,hc,_⟩:=mj
 rw[x.fr] at hf;injection hf with hf;subst hf
 exact⟨hn,o,ho,hc⟩
theorem St.kept (x:St base n A X ow sc j ec J h₀ h) (k:Kept base h h'):St base n A X ow sc j ec J h₀ h':=
 ⟨x.at'.kept k,x.top,x.fr,x.ns.imp fun O=>k.ns,x.kp.trans k,x.nL,fun aaH a e=>let ⟨h1,h2,h3,o,h4,h5,h6⟩:=x.own aaH a e;⟨h1,h2,h3,o,k.get h4 h5,h5,h6⟩,x.lo,x.held,x.stays⟩
theorem St.freeze (x:St base n A X ow sc j ec J h₀ h):St base n A X none sc j ec J h₀ h:=by
 cases ow with
 | none=>exact x
 | some p=>
  obtain⟨aaH,a⟩:=p
  refine b5 (x.own aaH a rfl) fun O hX O=>?_
  refine⟨⟨fun y i d e1 e2=>?_,x.at'.cx,x.at'.ge,x.at'.scope,x.at'.low,x.at'.new⟩,x.top,x.fr,x.ns,x.kp,x.nL,(fun O O e=>by contradiction),x.lo,x.held,x.stays⟩
  refine Exists.elim (x.at'.rel y i d e1 e2) fun v zz=>aB zz fun hv hr=>?_
  refine⟨v,hv,?_⟩
  unfold eB at hr ⊢
  dsimp only at hr ⊢
  split at hr
  ·refine aB hr fun av o=>?_;try clear hr;subst av;exact o.rep hX
  ·exact hr.drop
theorem St.apart {σ':List (PySem.Str × Nat)}{aaH:Nat}{a:Addr} (x:St base n A X (some (aaH,a)) sc j ec J h₀ h) (j8:∀ y i,σ'.lookup y=some i->j.lookup y=some i/\i≠aaH):At base n A (plus X a) none sc σ' ec J h:=by
 obtain⟨_,hX,hb,o,ho,_⟩:=x.own aaH a rfl
 refine⟨fun y i d e1 e2=>?_,x.at'.cx,x.at'.ge,x.at'.scope,fun b hb=>hb.elim (x.at'.low b) fun q=>⟨o,q ▸ ho⟩,fun b lL=>lL.elim (x.at'.new b) fun q=>q ▸ hb⟩
 obtain⟨e3,e4⟩:=j8 y i e1
 obtain⟨v,hv,hr⟩:=x.at'.rel y i d e3 e2
 refine⟨v,hv,?_⟩
 unfold eB at hr
 dsimp only at hr
 rw[if_neg e4] at hr
 exact hr
set_option tactic.hygienic true in
theorem St.store (x:St base n A X ow sc j ec J h₀ h) {y:PySem.Str}{i:Nat}{d:V}{v:Value}{m:PySem.Str->Option Value} (hm:h.Ns ec.locals m) (hn:h'.Ns ec.locals fun z=>if z=y then some v else m z) (hs:Heap.SameBut ec.locals h h')
  (hk:sc.names.lookup y=some .local) (hinj:∀ z,j.lookup z=some i->z=y) (j8:j.lookup y=some i)
  {jD:Owner} (hr:eB h X jD i d v)
  (how:∀ z k d',k≠i->j.lookup z=some k->J[k]?=some (some d')->∃ v',Var h ec z v'/\eB h X jD k d' v')
  (mO:∀ aaH a,jD=some (aaH,a)->h₀.get? a=none/\¬ X a/\base.get? a=none/\∃ o,h.get? a=some o/\¬ book o/\∀ vs,o.data≠.fields vs) :
  St base n A X jD sc j ec (J.set i (some d)) h₀ h':=by
 obtain⟨hb,oL,hL,r9⟩:=x.mM
 have lL:book oL:=r9
 refine eA (id hn) fun r7 es ep zz=>b5 zz fun e2 d2 O=>?_
 have mod:Mod ec.locals h h':=⟨hs.extBut,oL,r7,hL,e2,r9.eK,(by refine bT r9 fun O O q=>?_;intro v z;rw[q] at z;contradiction),fun O=>⟨_,_,d2⟩⟩
 have UT:∀ {k d' v'},eB h X jD k d' v'->eB h' X jD k d' v':=by
  intro k d' v' r
  unfold eB at r ⊢
  split
  ·dsimp only at r
   split at r
   ·rename_i q;rw[if_pos q];exact⟨r.1,mod.own ⟨oL,hL,lL⟩ r.2⟩
   ·rename_i q;rw[if_neg q];exact mod.rep (.inr ⟨oL,hL,lL⟩) r
  ·exact mod.rep (.inr ⟨oL,hL,lL⟩) r
 refine⟨⟨fun z k d' e1 e2=>?_,mod.cx hb x.at'.cx,x.at'.ge,x.at'.scope,mod.low x.at'.low,x.at'.new⟩,x.top,x.fr,⟨_,hn⟩,mod.kept x.kp x.nL,x.nL,fun aaH a e=>?_,x.lo,x.held,x.stays⟩
 ·by_cases hz:k=i
  ·subst hz
   obtain rfl:=hinj z e1
   rw[List.getElem?_set_self'] at e2
   have hd:d'=d:=by
    cases q2:J[k]? with
    | none=>rw[q2] at e2;contradiction
    | some z=>rw[q2] at e2;cases e2;rfl
   subst hd
   exact⟨v,.inl ⟨by unfold Env.kindOf;rw[x.at'.scope];exact hk,_,hn,if_pos rfl⟩,UT hr⟩
  ·rw[List.getElem?_set_ne (Ne.symm hz)] at e2
   refine Exists.elim (how z k d' hz e1 e2) fun u zz=>aB zz fun hu ru=>?_
   have ZM:z≠y:=fun q=>by rw[q,j8] at e1;exact hz (Option.some.inj e1).symm
   refine⟨u,?_,UT ru⟩
   rcases hu with ⟨q,m',Dg,hu⟩ | ⟨q,c,hc,hu⟩
   ·refine .inl ⟨q,_,hn,?_⟩
    rw[if_neg ZM]
    rw[<- R4 Dg hm];exact hu
   ·exact .inr ⟨q,c,hc,mod.cell hu⟩
 ·obtain⟨h1,h2,h3,o,h4,h5,h6⟩:=mO aaH a e
  exact⟨h1,h2,h3,o,mod.other _ _ (fun q=>by rw[q,hL] at h4;injection h4 with h4;subst h4;exact h5 lL) h4,h5,h6⟩
theorem St.turn {aaH:Nat}{a:Addr}{y:PySem.Str}{d iT:V} (x:St base n A X (some (aaH,a)) sc j ec J h₀ h) (hs:Heap.ExtBut a h h') (ho:b0 h' X a d) (j8:j.lookup y=some aaH) (hj:J[aaH]?=some (some iT)) :
  St base n A X (some (aaH,a)) sc j ec (J.set aaH (some d)) h₀ h':=by
 obtain⟨h1,h2,h3,o,h4,h5,_⟩:=x.own aaH a rfl
 refine Exists.elim (x.at'.rel y aaH iT j8 hj) fun BH zz=>aB zz fun UU mP=>?_
 unfold eB at mP
 dsimp only at mP
 rw[if_pos rfl] at mP
 refine Exists.elim mP.2.plain fun p zz=>b5 zz fun p1 p2 p3=>?_
 rw[h4] at p1;injection p1 with p1;subst p1
 refine Exists.elim ho.there fun r7 zz=>b5 zz fun e2 n2 n3=>?_
 refine Exists.elim x.ns fun m hm=>?_
 obtain⟨hb,oL,hL,r9⟩:=x.mM
 have UW:ec.locals≠a:=fun q=>by rw[q,h4] at hL;injection hL with hL;subst hL;exact h5 r9
 have mod:Mod a h h':=⟨hs,o,r7,h4,e2,p2,p3,fun q=>absurd q h5⟩
 refine⟨⟨fun z k d' e1 e2=>?_,mod.cx h3 x.at'.cx,x.at'.ge,x.at'.scope,mod.low x.at'.low,x.at'.new⟩,x.top,x.fr,⟨m,mod.ns UW hm⟩,mod.kept x.kp h1,x.nL,fun j' a' e=>?_,x.lo,x.held,x.stays⟩
 ·have var:∀ {v},Var h ec z v->Var h' ec z v:=fun hv=>by
   rcases hv with ⟨q,m',Dg,hu⟩ | ⟨q,c,hc,hu⟩
   ·exact .inl ⟨q,m',mod.ns UW Dg,hu⟩
   ·exact .inr ⟨q,c,hc,mod.cell hu⟩
  by_cases hz:k=aaH
  ·subst hz
   refine Exists.elim (x.at'.rel z k iT e1 hj) fun v zz=>aB zz fun hv hr=>?_
   rw[List.getElem?_set_self',hj] at e2
   cases e2
   refine⟨v,var hv,?_⟩
   unfold eB at hr ⊢
   dsimp only at hr ⊢
   rw[if_pos rfl] at hr ⊢
   exact⟨hr.1,ho⟩
  ·rw[List.getElem?_set_ne (Ne.symm hz)] at e2
   refine Exists.elim (x.at'.rel z k d' e1 e2) fun v zz=>aB zz fun hv hr=>?_
   refine⟨v,var hv,?_⟩
   unfold eB at hr ⊢
   dsimp only at hr ⊢
   rw[if_neg hz] at hr ⊢
   exact mod.rep (.inl (.inr rfl)) hr
 ·cases e;exact⟨h1,h2,h3,r7,e2,n2,n3⟩
theorem St.turned {aaH:Nat}{a:Addr}{y:PySem.Str}{d iT:V}{o':Obj} (x:St base n A X (some (aaH,a)) sc j ec J h₀ h) (hs:Heap.ExtBut a h h') (ho:Rep (seen X h') d (.ref a)) (he:h'.get? a=some o') (j8:j.lookup y=some aaH) (hj:J[aaH]?=some (some iT)) :
  St base n A X none sc j ec (J.set aaH (some d)) h₀ h':=by
 obtain⟨h1,h2,h3,o,h4,h5,_⟩:=x.own aaH a rfl
 refine Exists.elim (x.at'.rel y aaH iT j8 hj) fun BH zz=>aB zz fun UU mP=>?_
 unfold eB at mP
 dsimp only at mP
 rw[if_pos rfl] at mP
 refine Exists.elim mP.2.plain fun p zz=>b5 zz fun p1 p2 p3=>?_
 rw[h4] at p1;injection p1 with p1;subst p1
 refine Exists.elim x.ns fun m hm=>?_
 obtain⟨hb,oL,hL,r9⟩:=x.mM
 have UW:ec.locals≠a:=fun q=>by rw[q,h4] at hL;injection hL with hL;subst hL;exact h5 r9
 have mod:Mod a h h':=⟨hs,o,o',h4,he,p2,p3,fun q=>absurd q h5⟩
 refine⟨⟨fun z k d' e1 e2=>?_,mod.cx h3 x.at'.cx,x.at'.ge,x.at'.scope,mod.low x.at'.low,x.at'.new⟩,x.top,x.fr,⟨m,mod.ns UW hm⟩,mod.kept x.kp h1,x.nL,(fun j' a' e=>by contradiction),x.lo,x.held,x.stays⟩
 have var:∀ {v},Var h ec z v->Var h' ec z v:=fun hv=>by
  rcases hv with ⟨q,m',Dg,hu⟩ | ⟨q,c,hc,hu⟩
  ·exact .inl ⟨q,m',mod.ns UW Dg,hu⟩
  ·exact .inr ⟨q,c,hc,mod.cell hu⟩
 by_cases hz:k=aaH
 ·subst hz
  refine Exists.elim (x.at'.rel z k iT e1 hj) fun v zz=>aB zz fun hv hr=>?_
  rw[List.getElem?_set_self',hj] at e2
  cases e2
  unfold eB at hr
  dsimp only at hr
  rw[if_pos rfl] at hr
  exact⟨.ref a,hr.1 ▸ var hv,ho⟩
 ·rw[List.getElem?_set_ne (Ne.symm hz)] at e2
  refine Exists.elim (x.at'.rel z k d' e1 e2) fun v zz=>aB zz fun hv hr=>?_
  refine⟨v,var hv,?_⟩
  unfold eB at hr
  dsimp only at hr
  rw[if_neg hz] at hr
  exact (mod.rep (.inl (.inr rfl)) hr).drop
theorem Hw {l:List Addr} (k:Kept base h₀ h) (hn:∀ b∈l,h₀.get? b=none):Kept base h₀ (hideAll h l):=fun b o e=>by
 have hb:b∉l:=fun q=>by rw[hn b q] at e;contradiction
 rcases k b o e with e' | ⟨x,c,d,sl,e'⟩
 ·exact .inl (hideAll_get l e' hb)
 ·exact .inr ⟨x,c,d,sl,hideAll_get l e' hb⟩
theorem Hx (l:List Addr):Kept base (hideAll h l) h:=fun b o e=>.inl (of_hideAll l e)
noncomputable def hidden (ec:Env) (ow:Owner):List Addr:=ec.locals::match ow with | some (_,a)=>[a] | none=>[]
theorem St.hide (x:St base n A X ow sc j ec J h₀ h):St base n A X ow sc j ec J (hideAll h (hidden ec ow)) h/\Kept base h₀ (hideAll h (hidden ec ow)):=by
 have plain:∀ b∈hidden ec ow,base.get? b=none/\∃ o,h.get? b=some o/\∀ vs,o.data≠.fields vs:=fun b hb=>by
  rcases List.mem_cons.mp hb with q | q
  ·subst q
   obtain⟨hb,o,ho,ZO⟩:=x.mM
   exact⟨hb,o,ho,ZO.eK⟩
  ·cases ow with
   | none=>contradiction
   | some p=>
    obtain⟨aaH,a⟩:=p
    rcases List.mem_cons.mp q with q | q
    ·subst q
     obtain⟨_,_,h3,o,h4,h5,h6⟩:=x.own aaH _ rfl
     exact⟨h3,o,h4,h6⟩
    ·contradiction
 have held:cy A (hideAll h (hidden ec ow)):=by
  rcases x.at'.cx.held with y | ⟨a,k,y,c⟩
  ·exact .inl y
  ·refine .inr ⟨a,k,y,c.keeps fun O z o O cz e O O=>hideAll_get _ e fun q=>?_⟩
   obtain⟨_,o',e',f⟩:=plain z q
   refine eA cz.get fun OL vs O zz=>nk zz fun e3 O O d O=>?_
   rw[e'] at e3;injection e3 with e3;subst e3;exact f _ d
 refine⟨⟨x.at',x.top,x.fr,x.ns,Hx _,hideAll_none _ (.head _),fun aaH a e=>?_,fun b hb=>?_,held,fun b o e=>hideAll_get _ (x.at'.cx.stays b o e) fun q=>?_⟩,Hw x.kp fun b hb=>?_⟩
 ·refine iV (x.own aaH a e) fun h1 h2 h3 h4=>?_
  subst e
  exact⟨hideAll_none _ (.tail _ (.head _)),h2,h3,h4⟩
 ·refine Exists.elim (x.at'.low b hb) fun o e=>?_
  refine⟨o,hideAll_get _ e fun q=>?_⟩
  rcases List.mem_cons.mp q with q | q
  ·exact x.lo.none (q ▸ x.nL) hb
  ·cases ow with
   | none=>contradiction
   | some p=>obtain⟨aaH,a⟩:=p;rcases List.mem_cons.mp q with q | q;(· exact (x.own aaH a rfl).2.1 (q ▸ hb));(· contradiction)
 ·have:=(plain b q).1;rw[e] at this;contradiction
 ·unfold hidden at hb
  rcases List.mem_cons.mp hb with q | q
  ·rw[q];exact x.nL
  ·cases ow with
   | none=>contradiction
   | some p=>obtain⟨aaH,a⟩:=p;rcases List.mem_cons.mp q with q | q;(· rw[q];exact (x.own aaH a rfl).1);(· contradiction)
theorem St.KJ {ai:Heap} (x:St base n A X ow sc j ec J ai h) (k:Kept base h₀ ai) (lo:ni X h₀) (hh:cy A h₀) (st:base.StaysIn h₀):St base n A X ow sc j ec J h₀ h:=
 ⟨x.at',x.top,x.fr,x.ns,k.trans x.kp,k.missing x.nL,fun aaH a e=>⟨k.missing (x.own aaH a e).1,(x.own aaH a e).2⟩,lo,hh,st⟩
theorem St.uC {ai:Heap} (x:St base n A X none sc j ec J ai h) (k:cV base ai h h'):St base n A X none sc j ec J ai h':=by
 have kp:=x.kp.after k
 refine⟨⟨fun z i d e1 e2=>?_,⟨?_,kp.stays x.stays,x.held.kept kp,x.at'.cx.depth,x.at'.cx.units⟩,x.at'.ge,x.at'.scope,x.lo.kept kp,x.at'.new⟩,x.top,x.fr,x.ns.imp fun O=>k.ns,kp,x.nL,(fun O O e=>by contradiction),x.lo,x.held,x.stays⟩
 ·obtain⟨v,hv,hr⟩:=x.at'.rel z i d e1 e2
  refine⟨v,?_,k.rep hr⟩
  rcases hv with ⟨q,m',Dg,hu⟩ | ⟨q,c,hc,hu⟩
  ·exact .inl ⟨q,m',k.ns Dg,hu⟩
  ·exact .inr ⟨q,c,hc,k.cell hu⟩
 ·obtain⟨l,e,f⟩:=x.at'.cx.stack
  exact⟨l,e,f.uC k⟩
end
section
variable (prog:Program) (w:World) (base:Heap) (cl:dB->Value) (D:Fn->List V->R V) (n:Nat)
structure KL (A:Around) (X:Addr->Prop) (sc:Scope) (j:List (PySem.Str × Nat)) (ec:Env) (h₀:Heap) (c9:Option Nat) (s:Shared) (r:SR) (Q:Flow->Shared->Prop) (E:Value->Shared->Prop):Prop where
 next:∀ J ow h' tk,r=.next J->ow.map Prod.fst=c9->St base n A X ow sc j ec J h₀ h'->Q .next { s with heap:=h',toks:=tk }
 ret:∀ d v J h' tk,r=.ret d->St base n A X none sc j ec J h₀ h'->Rep (seen X h') d v->Q (.ret v) { s with heap:=h',toks:=tk }
 exc:∀ x J e h' tk,r=.exc x J->St base n A X none sc j ec J h₀ h'->ExcAt false h₀ (cl x) e h'->E (.ref e) { s with heap:=h',toks:=tk }
def bJ (own c9:Option Nat) (sc:Scope) (j:List (PySem.Str × Nat)) (st:Stmt) (p:PS):Prop:=
 ∀ (A:Around) (X:Addr->Prop) (ec:Env) (J:Ρ) (h₀:Heap) (s:Shared) (ow:Owner),ow.map Prod.fst=own->St base n A X ow sc j ec J h₀ s.heap->∀ (Q:Flow->Shared->Prop) (E:Value->Shared->Prop),KL base cl n A X sc j ec h₀ c9 s (bQ D p J) Q E->
  bQ D p J≠.stuck->aK (model prog w) A (exec st ec) Q E s
def bY (own c9:Option Nat) (sc:Scope) (j:List (PySem.Str × Nat)) (st:List Stmt) (p:aA):Prop:=
 ∀ (A:Around) (X:Addr->Prop) (ec:Env) (J:Ρ) (h₀:Heap) (s:Shared) (ow:Owner),ow.map Prod.fst=own->St base n A X ow sc j ec J h₀ s.heap->∀ (Q:Flow->Shared->Prop) (E:Value->Shared->Prop),KL base cl n A X sc j ec h₀ c9 s (aj D p J) Q E->
  aj D p J≠.stuck->aK (model prog w) A (execs st ec) Q E s
def pN (sc:Scope) (j:List (PySem.Str × Nat)) (st:Stmt) (x:dB) (ps:fZ):Prop:=
 ∀ (A:Around) (X:Addr->Prop) (ec:Env) (J:Ρ) (s:Shared),At base n A X none sc j ec J s.heap->∀ (Q:Flow->Shared->Prop) (E:Value->Shared->Prop),Ex base cl s ((cS D ps J).bind fun O=>(.exc x:R Unit)) E->cS D ps J≠.stuck->
  aK (model prog w) A (exec st ec) Q E s
def Dq (hc:Hc) (hv:Value):Prop:=∀ (A:Around) (s:Shared) (x:dB) (e:Addr) (Q:Bool->Shared->Prop) (E:Value->Shared->Prop),base.StaysIn s.heap->(∃ oe vs,s.heap.get? e=some oe/\oe.cls=cl x/\oe.data=.fields vs)->Q (hc.lP x) s->
 wpAny (model prog w) A (excMatches (.ref e) hv) Q E s
def BI (c9:Option Nat) (sc:Scope) (j:List (PySem.Str × Nat)) (hs:List ExceptHandler) (ps:Ij):Prop:=
 ∀ (A:Around) (X:Addr->Prop) (ec:Env) (J:Ρ) (h₀:Heap) (s:Shared) (x:dB) (e:Addr),St base n A X none sc j ec J h₀ s.heap->ExcAt true h₀ (cl x) e s.heap->
  ∀ (Q:Flow->Shared->Prop) (E:Value->Shared->Prop),KL base cl n A X sc j ec h₀ c9 s (Ik D ps x J) Q E->Ik D ps x J≠.stuck->aK (model prog w) A (handleBy (.ref e) ec hs) Q E s
end
section
variable {prog:Program}{w:World}{base:Heap}{cl:dB->Value}{A:Around}{X:Addr->Prop}{s:Shared}{D:Fn->List V->R V}{n:Nat}{sc:Scope}{j:List (PySem.Str × Nat)}{K:Frag}{ec:Env}{J:Ρ}{h₀:Heap}{ow:Owner}{own c9:Option Nat}
 {Q:Flow->Shared->Prop}{E:Value->Shared->Prop}
theorem KL.ex {α:Type}{r:R α}{kk:α->SR} (p:KL base cl n A X sc j ec h₀ c9 s (r.on J kk) Q E) (st:St base n A X ow sc j ec J h₀ s.heap):Ex base cl s r E:=fun x e h' tk q k y=>
 p.exc x J e h' tk (by rw[q];rfl) (st.freeze.kept k) (y.elder st.kp)
theorem fW {α:Type}{r:R α}{kk:α->SR} (h:r.on J kk≠.stuck):r≠.stuck:=fun q=>h (by rw[q];rfl)
theorem kG {α:Type}{r:R α}{kk:α->SR}{a:α} (e:r=.ok a):r.on J kk=kk a:=by rw[e];rfl
theorem KL.move {r:SR}{h:Heap}{tk:Nat} (p:KL base cl n A X sc j ec h₀ c9 s r Q E):KL base cl n A X sc j ec h₀ c9 { s with heap:=h,toks:=tk } r Q E:=
 ⟨fun J ow h' mz e=>p.next J ow h' mz e,fun d v J h' mz e=>p.ret d v J h' mz e,fun x J e h' mz q=>p.exc x J e h' mz q⟩
theorem KL.step {α:Type}{r:R α}{kk:α->SR}{a:α}{h:Heap}{tk:Nat} (p:KL base cl n A X sc j ec h₀ c9 s (r.on J kk) Q E) (e:r=.ok a):KL base cl n A X sc j ec h₀ c9 { s with heap:=h,toks:=tk } (kk a) Q E:=by
 rw[kG e] at p;exact p.move
theorem fz {α:Type}{r:R α}{kk:α->SR}{a:α} (aq:r.on J kk≠.stuck) (e:r=.ok a):kk a≠.stuck:=by rw[kG e] at aq;exact aq
theorem gX (h:ow.map Prod.fst=none):ow=none:=by cases ow;rfl;contradiction
theorem gY {aaH:Nat} (h:ow.map Prod.fst=some aaH):∃ a,ow=some (aaH,a):=by
 cases ow with
 | none=>contradiction
 | some p=>obtain⟨i,a⟩:=p;injection h with h;subst h;exact⟨a,rfl⟩
theorem bY.nil:bY prog w base cl D n own own sc j [] .nil:=fun A X ec J h₀ s ow ho st Q E p aq=>by
 rw[Mu] at p
 exact (wpAny_execs_nil (p.next J ow s.heap s.toks rfl ho st)).g
theorem bY.cons {mid:Option Nat}{st:Stmt}{r:List Stmt}{a:PS}{as:aA} (h:bJ prog w base cl D n own mid sc j st a) (h':bY prog w base cl D n mid c9 sc j r as):bY prog w base cl D n own c9 sc j (st::r) (.cons a as):=fun A X ec J h₀ s ow ho x Q E p aq=>by
 rw[Mv] at p aq
 refine wd (h A X ec J h₀ s ow ho x _ _ ⟨fun ρ' jD ai tk e ll x'=>?_,fun d v ρ' ai tk e k rp=>?_,fun z ρ' e ai tk q x' y=>?_⟩ fun q=>aq (by rw[q];rfl))
 ·rw[e] at p aq
  exact h' A X ec ρ' h₀ { s with heap:=ai,toks:=tk } jD ll x' Q E p.move aq
 ·exact p.ret d v ρ' ai tk (by rw[e];rfl) k rp
 ·exact p.exc z ρ' e ai tk (by rw[q];rfl) x' y
theorem bJ.freeze {ss:Stmt}{ps:PS} (h:bJ prog w base cl D n none c9 sc j ss ps):bJ prog w base cl D n own c9 sc j ss ps:=fun A X ec J h₀ s ow ho x Q E p aq=>h A X ec J h₀ s none rfl x.freeze Q E p aq
theorem bY.OO {ss:List Stmt}{ps:aA} (h:bY prog w base cl D n own c9 sc j ss ps):bY prog w base cl D n own none sc j ss ps:=fun A X ec J h₀ s ow ho x Q E p aq=>
 h A X ec J h₀ s ow ho x Q E ⟨fun ρ' jD h' tk e O x'=>p.next ρ' none h' tk e rfl x'.freeze,p.ret,p.exc⟩ aq
theorem ei {ec:Env} (g:Ge ec):(ec.scope.kind == .class||(ec.scope.kind == .module&&ec.locals != ec.globals))=false:=by rw[g.kind];rfl
theorem bJ.assign {f1:Bool}{x:PySem.Str}{px pos:Pos}{e:Expr}{p:PE}{i:Nat} (he:aL prog w base cl D n f1 sc j e p) (hk:sc.names.lookup x=some .local) (j8:j.lookup x=some i) (hinj:∀ z,j.lookup z=some i->z=x)
  (Hy:∀ env,swapsWith e (some (.Name x px)) pos.line env=pure false):bJ prog w base cl D n none none sc j (.Assign [.Name x px] e pos) (.assign i p):=fun A X ec J h₀ s ow ho st Q E po aq=>by
 obtain rfl:=gX ho
 rw[zu] at po aq
 refine gA (he A X ec J s st.at' _ _ ⟨fun d v ai tk e₁ k rp O=>?_,po.ex st⟩ (fW aq)) (Hy ec)
 have ct:=st.kept k
 refine Exists.elim ct.ns fun m hm=>?_
 refine wpAny_storeName_local (s:={ s with heap:=ai,toks:=tk }) (by unfold Env.kindOf;rw[st.at'.scope];exact hk) hm (fun aD hn hs=>?_) (ei st.at'.ge)
 refine po.next (J.set i (some d)) none aD _ (kG e₁) rfl (ct.store hm hn hs hk hinj j8 (jD:=none) rp (fun z aaH d' hz e1 e2=>ct.at'.rel z aaH d' e1 e2) fun O O q=>by contradiction)
theorem bJ.KN {f1:Bool}{x:PySem.Str}{px pos:Pos}{e:Expr}{p:PE}{i aaH:Nat}{σ':List (PySem.Str × Nat)} (he:aL prog w base cl D n f1 sc σ' e p) (KP:∀ y i,σ'.lookup y=some i->j.lookup y=some i/\i≠aaH) (UX:i≠aaH)
  (hk:sc.names.lookup x=some .local) (j8:j.lookup x=some i) (hinj:∀ z,j.lookup z=some i->z=x)
  (Hy:∀ env,swapsWith e (some (.Name x px)) pos.line env=pure false):bJ prog w base cl D n (some aaH) (some aaH) sc j (.Assign [.Name x px] e pos) (.assign i p):=fun A X ec J h₀ s ow ho st Q E po aq=>by
 refine Exists.elim (gY ho) fun a av=>?_;subst av
 rw[zu] at po aq
 refine gA (he A (plus X a) ec J s (st.apart KP) _ _ ⟨fun d v ai tk e₁ k rp O=>?_,po.ex st⟩ (fW aq)) (Hy ec)
 have ct:=st.kept k
 refine Exists.elim ct.ns fun m hm=>?_
 refine wpAny_storeName_local (s:={ s with heap:=ai,toks:=tk }) (by unfold Env.kindOf;rw[st.at'.scope];exact hk) hm (fun aD hn hs=>?_) (ei st.at'.ge)
 refine po.next (J.set i (some d)) (some (aaH,a)) aD _ (kG e₁) rfl (ct.store hm hn hs hk hinj j8 (jD:=some (aaH,a)) ?_ (fun z j' d' hz e1 e2=>ct.at'.rel z j' d' e1 e2) ct.own)
 unfold eB
 dsimp only
 rw[if_neg UX];exact rp
theorem o7 {x:PySem.Str}{i:Nat}{d:V}{v:Value}{ai aD:Heap}{m:PySem.Str->Option Value} (st:St base n A X none sc j ec J h₀ s.heap) (k:Kept base s.heap ai) (hf:∃ a,v=.ref a/\s.heap.get? a=none/\b0 ai X a d)
  (hm:ai.Ns ec.locals m) (hn:aD.Ns ec.locals fun z=>if z=x then some v else m z) (hs:Heap.SameBut ec.locals ai aD)
  (hk:sc.names.lookup x=some .local) (j8:j.lookup x=some i) (hinj:∀ z,j.lookup z=some i->z=x):∃ a,St base n A X (some (i,a)) sc j ec (J.set i (some d)) h₀ aD:=by
 refine Exists.elim hf fun a zz=>b5 zz fun av na o=>?_;clear zz;try clear hf;subst av
 have ct:=st.kept k
 refine⟨a,ct.store hm hn hs hk hinj j8 (jD:=some (i,a)) ?_ (fun z j' d' hz e1 e2=>?_) fun aaH b q=>?_⟩
 ·unfold eB
  dsimp only
  rw[if_pos rfl];exact⟨rfl,o⟩
 ·refine Exists.elim (st.at'.rel z j' d' e1 e2) fun u zz=>aB zz fun hu ru=>?_
  refine⟨u,hu.kept k,?_⟩
  unfold eB
  dsimp only
  rw[if_neg hz]
  exact k.rep (Rep.fresh ru na)
 ·cases q
  refine⟨st.kp.missing na,st.at'.low.none na,?_,o.there⟩
  cases q:base.get? a with
  | none=>rfl
  | some o=>have:=st.at'.cx.stays a o q;rw[na] at this;contradiction
theorem bJ.build {x:PySem.Str}{px pos:Pos}{e:Expr}{p:PE}{i:Nat} (he:aL prog w base cl D n true sc j e p) (hk:sc.names.lookup x=some .local) (j8:j.lookup x=some i) (hinj:∀ z,j.lookup z=some i->z=x)
  (Hy:∀ env,swapsWith e (some (.Name x px)) pos.line env=pure false):bJ prog w base cl D n own (some i) sc j (.Assign [.Name x px] e pos) (.own i p):=bJ.freeze fun A X ec J h₀ s ow ho st Q E po aq=>by
 obtain rfl:=gX ho
 rw[QM] at po aq
 refine gA (he A X ec J s st.at' _ _ ⟨fun d v ai tk e₁ k rp hf=>?_,po.ex st⟩ (fW aq)) (Hy ec)
 have ct:=st.kept k
 refine Exists.elim ct.ns fun m hm=>?_
 refine wpAny_storeName_local (s:={ s with heap:=ai,toks:=tk }) (by unfold Env.kindOf;rw[st.at'.scope];exact hk) hm (fun aD hn hs=>?_) (ei st.at'.ge)
 have ao:=fz aq e₁
 have yt:∃ a,v=.ref a/\s.heap.get? a=none/\b0 ai X a d:=by cases d<;>first | exact hf rfl | exact absurd rfl ao
 have ZP:(ak D p J).on J (fun v=>match v with | .list _=>.next (J.set i (some v)) | .b9 _=>.next (J.set i (some v)) | _=>.stuck)=.next (J.set i (some d)):=by
  rw[kG e₁];cases d<;>first | rfl | exact absurd rfl ao
 refine Exists.elim (o7 st k yt hm hn hs hk j8 hinj) fun a fj=>?_
 exact po.next _ _ aD _ ZP rfl fj
theorem bJ.ite {t:Expr}{b o:List Stmt}{pos:Pos}{c:PE}{pb pe:aA} (hc:gC prog w base cl D n sc j t c) (hb:bY prog w base cl D n own c9 sc j b pb) (he:bY prog w base cl D n own c9 sc j o pe) :
  bJ prog w base cl D n own c9 sc j (.If t b o pos) (.ite c pb pe):=fun A X ec J h₀ s ow ho st Q E p aq=>by
 have e0:bQ D (.ite c pb pe) J=((ak D c J).bind V.truth).on J fun t=>if t then aj D pb J else aj D pe J:=by
  rw[QO];cases ak D c J<;>rfl
 rw[e0] at p aq
 refine WQ (hc A X ec J s st.freeze.at' _ _ ⟨fun t h' tk e k=>?_,p.ex st⟩ (fW aq))
 have bP:=p.step (h:=h') (tk:=tk) e
 have ao:=fz aq e
 cases t with
 | true=>exact hb A X ec J h₀ _ ow ho (st.kept k) Q E bP ao
 | false=>exact he A X ec J h₀ _ ow ho (st.kept k) Q E bP ao
theorem bJ.ret {f1:Bool}{e:Expr}{pos:Pos}{p:PE} (he:aL prog w base cl D n f1 sc j e p):bJ prog w base cl D n own c9 sc j (.Return (some e) pos) (.ret p):=fun A X ec J h₀ s ow ho st Q E po aq=>by
 rw[Mq] at po aq
 refine Kl (he A X ec J s st.freeze.at' _ _ ⟨fun d v ai tk e₁ k rp O=>?_,po.ex st⟩ (fW aq))
 exact po.ret d v J ai tk (kG e₁) (st.freeze.kept k) rp
theorem bJ.raise {st:Stmt}{x:dB}{ps:fZ} (h:pN prog w base cl D n sc j st x ps):bJ prog w base cl D n own c9 sc j st (.raise x ps):=fun A X ec J h₀ s ow ho t Q E po aq=>by
 rw[Mr] at po aq
 refine h A X ec J s t.freeze.at' Q E (fun z e h' tk q k y=>?_) (fW aq)
 cases q2:cS D ps J with
 | ok vs=>rw[q2] at q;injection q with q;subst q;exact po.exc x J e h' tk (kG q2) (t.freeze.kept k) (y.elder t.kp)
 | exc z'=>rw[q2] at q;cases q;exact po.exc z J e h' tk (by rw[q2];rfl) (t.freeze.kept k) (y.elder t.kp)
 | stuck=>rw[q2] at q;contradiction
theorem bJ.expr {f1:Bool}{e:Expr}{pos:Pos}{p:PE} (he:aL prog w base cl D n f1 sc j e p) (hs:∀ env,swapsWith e none pos.line env=pure false):bJ prog w base cl D n own own sc j (.Expr e pos) (.expr p):=fun A X ec J h₀ s ow ho st Q E po aq=>by
 rw[Mt] at po aq
 refine Bs (he A X ec J s st.freeze.at' _ _ ⟨fun d v ai tk e₁ k rp O=>?_,po.ex st⟩ (fW aq)) (by unfold interactive;rw[st.at'.ge.kind];rfl) (hs ec)
 exact po.next J ow ai tk (kG e₁) ho (st.kept k)
theorem yL (T:Addr):¬ ((Value.ref T == Value.none)=true):=by simp
theorem gn {B:Around}{tr:Bool}{c:Value}{e:Addr} (st:St base n A X none sc j ec J h₀ s.heap) (hB:B.frames=A.frames) (hx:ExcAt tr h₀ c e s.heap) (hQ:∀ h',St base n A X none sc j ec J h₀ h'->ExcAt true h₀ c e h'->E (.ref e) { s with heap:=h' }) :
  notedBy (model prog w) B ec (cameBackBy (model prog w) A ec E) (.ref e) s:=by
 obtain⟨outer,yt,hF⟩:=st.frames
 unfold notedBy
 refine iC (base:=base) (h₀:=h₀) (hB.trans yt) hF st.fr hx st.kp fun h' kn Tt=>?_
 unfold cameBackBy
 obtain⟨n1,ch,oe,vs,he,hc,hd,ht⟩:=id Tt
 rcases ht with ⟨q,_⟩ | ⟨T,oT,ts,f,h1,S1,hT,Qb,Og,h3⟩
 ·contradiction
 ·refine wpAny_bind (wpAny_field (s:={ s with heap:=h' }) he hd h1 ?_)
  rw[if_neg (yL T)]
  exact fx (base:=base) (s:={ s with heap:=h' }) Tt fun L8 S7 W4=>hQ L8 (st.uC (kn.trans S7)) W4
theorem yM {c:Ρ->R Bool}{b:Ρ->SR}{k:Nat}{J:Ρ}:dk c b (k+1) J=(c J).on J fun t=>if t then (b J).then (dk c b k) else .next J:=rfl
theorem bJ.while {t:Expr}{b:List Stmt}{pos:Pos}{c:PE}{pb:aA} (hc:gC prog w base cl D n sc j t c) (hb:bY prog w base cl D n own own sc j b pb):bJ prog w base cl D n own own sc j (.While t b [] pos) (.while c pb):=fun A X ec J h₀ s ow ho st Q E p aq=>by
 rw[QP] at p aq
 refine Ot (yx (fun N s'=>∃ (ρ':Ρ) (jD:Owner) (h':Heap) (tk:Nat),s'={ s with heap:=h',toks:=tk }/\jD.map Prod.fst=own/\St base n A X jD sc j ec ρ' h₀ h'/\
  dk (fun J=>(ak D c J).bind V.truth) (aj D pb) N ρ'=dk (fun J=>(ak D c J).bind V.truth) (aj D pb) turns J) ?_ turns ⟨J,ow,s.heap,s.toks,rfl,ho,st,rfl⟩)
 rintro N _ ⟨ρ',jD,h',tk,rfl,ll,mQ,er⟩
 rw[<- er] at p aq
 cases N with
 | zero=>exact absurd rfl aq
 | succ N=>
  rw[yM] at p aq er
  refine hc A X ec ρ' { s with heap:=h',toks:=tk } mQ.freeze.at' _ _ ⟨fun k aD bD bK k₂=>?_,fun x e aD bD q k₂ y=>?_⟩ (fW aq)
  ·have di:=p.step (h:=aD) (tk:=bD) bK
   have cI:=fz aq bK
   have fj:=mQ.kept k₂
   cases k with
   | false=>exact di.next ρ' jD aD bD rfl ll fj
   | true=>
    rw[if_pos rfl] at di cI ⊢
    refine hb A X ec ρ' h₀ { s with heap:=aD,toks:=bD } jD ll fj _ _ ⟨fun yN UY bE jA rX UZ sd=>?_,fun d v yN bE jA rX sd rp=>?_,fun x yN e bE jA rX sd y=>?_⟩ fun q=>cI (by rw[q];rfl)
    ·refine⟨N,Nat.lt_succ_self _,yN,UY,bE,jA,rfl,UZ,sd,?_⟩
     rw[<- er,kG bK,if_pos rfl,rX];rfl
    ·exact di.ret d v yN bE jA (by rw[rX];rfl) sd rp
    ·exact gn (s:={ s with heap:=bE,toks:=jA }) sd rfl y fun cU cE BJ=>di.exc x yN e cU jA (by rw[rX];rfl) cE BJ.weak
  ·exact gn (s:={ s with heap:=aD,toks:=bD }) (mQ.freeze.kept k₂) rfl (y.elder mQ.kp) fun cU cE BJ=>p.exc x ρ' e cU bD (by rw[q];rfl) cE BJ.weak
noncomputable def V6 (X:Addr->Prop):Owner->Addr->Prop
 | some (_,a)=>plus X a
 | none=>X
set_option tactic.hygienic true in
theorem St.touch {it:Addr}{h h':Heap} (x:St base n A X ow sc j ec J h₀ h) (t:iP it h h') (nI:h₀.get? it=none):St base n A X ow sc j ec J h₀ h':=by
 have kp:=t.kept x.kp nI
 refine bT t.here fun oI vsI zz=>aB zz fun hI dI=>?_
 have ne:∀ {b o},h.get? b=some o->(∀ vs,o.data≠.fields vs)->h'.get? b=some o:=fun {b o} e f=>t.other b o (fun q=>by subst q;rw[hI] at e;injection e with e;subst e;exact f _ dI) e
 have frames:∀ {l:List Env},Frames base h l->Frames base h' l:=by
  intro l
  induction l with
  | nil=>exact fun O=>trivial
  | cons env r ih=>exact fun ⟨hk,⟨L,o,hf,hn,ho,hc,hd⟩,hr⟩=>⟨hk,⟨L,o,hf,hn,ne ho hd,hc,hd⟩,ih hr⟩
 have ns:∀ {b f},h.Ns b f->h'.Ns b f:=fun ⟨o,es,ep,h1,h2,r⟩=>⟨o,es,ep,ne h1 (by intro vs q;rw[h2] at q;contradiction),h2,r⟩
 refine⟨⟨fun z i d e1 e2=>?_,⟨?_,kp.stays x.stays,x.held.kept kp,x.at'.cx.depth,x.at'.cx.units⟩,x.at'.ge,x.at'.scope,x.lo.kept kp,x.at'.new⟩,x.top,x.fr,x.ns.imp fun O=>ns,kp,x.nL,fun aaH a e=>?_,x.lo,x.held,x.stays⟩
 ·refine Exists.elim (x.at'.rel z i d e1 e2) fun v zz=>aB zz fun hv hr=>?_
  refine⟨v,?_,?_⟩
  ·rcases hv with ⟨q,m',Dg,hu⟩ | ⟨q,c,hc,o,h1,h2⟩
   ·exact .inl ⟨q,m',ns Dg,hu⟩
   ·exact .inr ⟨q,c,hc,o,ne h1 (by intro vs q;rw[h2] at q;contradiction),h2⟩
  ·unfold eB at hr ⊢
   split
   ·dsimp only at hr
    split at hr
    ·rename_i q;rw[if_pos q]
     refine⟨hr.1,?_⟩
     have R5:=hr.2
     cases d<;>first | exact R5.elim | skip
     ·refine eA R5 fun o y n zz=>nk zz fun e c dn hd r=>?_
      exact⟨o,y,n,ne e (by intro vs q;rw[hd] at q;contradiction),c,dn,hd,r⟩
     ·refine eA R5 fun o vs n zz=>zl zz fun e c dn hd l r=>?_
      exact⟨o,vs,n,ne e (by intro vs q;rw[hd] at q;contradiction),c,dn,hd,l,t.j5 r⟩
    ·rename_i q;rw[if_neg q];exact t.rep hr
   ·exact t.rep hr
 ·refine Exists.elim x.at'.cx.stack fun l zz=>aB zz fun e f=>?_
  exact⟨l,e,frames f⟩
 ·obtain⟨h1,h2,h3,o,h4,h5,h6⟩:=x.own aaH a e
  exact⟨h1,h2,h3,o,ne h4 h6,h5,h6⟩
theorem oa {Y:Addr->Prop}{h h':Heap}{it:Addr}{ds:List V} (x:St base n A X ow sc j ec J h₀ h) (i:bh h Y it ds) (hY:∀ aaH a,ow=some (aaH,a)->Y a) (k:Kept base (hideAll h (hidden ec ow)) h'):bh h' Y it ds:=i.kept fun b o e q=>by
 have hb:b∉hidden ec ow:=fun m=>by
  rcases List.mem_cons.mp m with z | z
  ·subst z
   obtain⟨_,o',e',bk⟩:=x.mM
   rw[e'] at e;injection e with e;subst e
   rcases q with ⟨_,q⟩ | ⟨q,_⟩
   ·exact bk.eK _ q
   ·exact b7 q bk
  ·cases ow with
   | none=>contradiction
   | some p=>
    obtain⟨aaH,a⟩:=p
    rcases List.mem_cons.mp z with z | z
    ·subst z
     obtain⟨_,_,_,o',e',_,f⟩:=x.own aaH _ rfl
     rw[e'] at e;injection e with e;subst e
     rcases q with ⟨_,q⟩ | ⟨_,q⟩
     ·exact f _ q
     ·exact q (hY aaH _ rfl)
    ·contradiction
 refine k.get (hideAll_get _ e hb) ?_
 rcases q with ⟨_,q⟩ | ⟨q,_⟩
 ·exact gS q
 ·exact b7 q
theorem bJ.for {x:PySem.Str}{px pos:Pos}{iter:Expr}{b:List Stmt}{p:uT}{pb:aA}{i:Nat}{σ':List (PySem.Str × Nat)} (hit:jC prog w base cl D n sc σ' iter p) (KP:∀ y k,σ'.lookup y=some k->j.lookup y=some k/\∀ aaH,own=some aaH->k≠aaH) (UX:∀ aaH,own=some aaH->i≠aaH)
  (hk:sc.names.lookup x=some .local) (j8:j.lookup x=some i) (hinj:∀ z,j.lookup z=some i->z=x) (hb:bY prog w base cl D n own own sc j b pb)
  (hs:∀ env x,foldedSetIterable iter env x=pure x):bJ prog w base cl D n own own sc j (.For (.Name x px) iter b [] pos) (.for i p pb):=fun A X ec J h₀ s ow ho st Q E po aq=>by
 rw[QQ] at po aq
 have U0:At base n A (V6 X ow) none sc σ' ec J s.heap:=by
  cases ow with
  | none=>
   refine⟨fun z k d e1 e2=>st.at'.rel z k d (KP z k e1).1 e2,st.at'.cx,st.at'.ge,st.at'.scope,st.at'.low,st.at'.new⟩
  | some q=>obtain⟨aaH,a⟩:=q;exact st.apart fun y k e=>⟨(KP y k e).1,(KP y k e).2 aaH (by rw[<- ho];rfl)⟩
 refine Ul (hit A (V6 X ow) ec J s U0 _ _ (fun ds ai o tk e₁ k₁ U1=>?_) (po.ex st) (fW aq)) (hs ec)
 have ao:=fz aq e₁
 have cL:=po.step (h:=ai) (tk:=tk) e₁
 have hlen:ds.length<=lim:=by
  by_cases q:ds.length<=lim
  ·exact q
  ·rw[if_neg q] at ao;exact absurd rfl ao
 rw[if_pos hlen] at cL ao
 have kI:Kept base s.heap (ai.push o):=k₁.trans (Kept.push _ _ _)
 have nI:h₀.get? ai.objs.size=none:=st.kp.missing (k₁.missing (bS _))
 generalize hI:ai.objs.size=I at U1 nI ⊢
 refine Hn (fun N s'=>∃ (Dr:List V) (ρ':Ρ) (jD:Owner) (h':Heap) (mz:Nat),s'={ s with heap:=h',toks:=mz }/\N=Dr.length/\jD.map Prod.fst=own/\St base n A X jD sc j ec ρ' h₀ h'/\bh h' (V6 X jD) I Dr/\
  dg i (aj D pb) Dr ρ'=dg i (aj D pb) ds J) ?_ ds.length ⟨ds,J,ow,_,tk,rfl,rfl,ho,st.kept kI,U1,rfl⟩
 rintro N _ ⟨Dr,ρ',jD,h',mz,rfl,rfl,ll,mQ,RL,er⟩
 rw[<- er] at cL ao
 cases Dr with
 | nil=>
  refine yF (s:={ s with heap:=h',toks:=mz }) mQ.at'.cx.held RL fun aD OQ=>?_
  exact cL.next ρ' jD aD mz rfl ll (mQ.touch OQ nI)
 | cons d Dr=>
  rw[Mp] at cL ao er
  refine uJ (s:={ s with heap:=h',toks:=mz }) RL fun aD bD v OQ it₂ rv=>?_
  have fj:=mQ.touch OQ nI
  obtain⟨m,hm⟩:=fj.ns
  refine wpAny_assign_Name (wpAny_storeName_local (s:={ s with heap:=aD,toks:=bD }) (by unfold Env.kindOf;rw[st.at'.scope];exact hk) hm (fun bE hn S6=>?_) (ei st.at'.ge))
  have sd:St base n A X jD sc j ec (ρ'.set i (some d)) h₀ bE:=fj.store hm hn S6 hk hinj j8 (jD:=jD) (by
   unfold eB
   cases jD with
   | none=>exact rv
   | some q=>obtain⟨aaH,a⟩:=q;dsimp only;rw[if_neg (UX aaH (by rw[<- ll];rfl))];exact rv) (fun z aaH d' hz e1 e2=>fj.at'.rel z aaH d' e1 e2) fj.own
  have KQ:bh bE (V6 X jD) I Dr:=it₂.kept fun z oz e q=>S6.extBut z oz (fun y=>by
   subst y
   obtain⟨_,o',e',bk⟩:=fj.mM
   rw[e'] at e;injection e with e;subst e
   rcases q with ⟨_,q⟩ | ⟨q,_⟩
   ·exact bk.eK _ q
   ·exact b7 q bk) e
  obtain⟨se,kh⟩:=sd.hide
  refine hb A X ec (ρ'.set i (some d)) _ { s with heap:=bE,toks:=bD+1 } jD ll se _ _ ⟨fun eW yO cU dN lE mR cE=>?_,fun KR KS eW cU dN lE cE rp=>?_,fun z eW e cU dN lE cE y=>?_⟩ fun q=>ao (by rw[q];rfl)
  ·refine⟨Dr.length,by simp,Dr,eW,yO,cU,dN,rfl,rfl,mR,cE.KJ kh st.lo st.held st.stays,?_,by rw[<- er,lE];rfl⟩
   cases mO:own with
   | none=>
    rw[mO] at ll mR
    obtain rfl:=gX ll
    obtain rfl:=gX mR
    exact oa se KQ (fun aaH a q=>by contradiction) cE.kp
   | some aaH=>
    rw[mO] at ll mR
    obtain⟨a,rfl⟩:=gY ll
    obtain⟨a',rfl⟩:=gY mR
    obtain⟨n4,_,_,o4,g4,b4,_⟩:=cE.own aaH a' rfl
    have U2:a'=a∨bE.get? a'=none:=by
     by_cases q:a'∈hidden ec (some (aaH,a))
     ·rcases List.mem_cons.mp q with q | q
      ·subst q
       obtain⟨_,o',e',bk⟩:=cE.mM
       rw[g4] at e';injection e' with e';subst e';exact absurd bk b4
      ·rcases List.mem_cons.mp q with q | q
       ·exact .inl q
       ·contradiction
     ·right
      cases z:bE.get? a' with
      | none=>rfl
      | some o=>rw[hideAll_get _ z q] at n4;contradiction
    rcases U2 with rfl | V7
    ·exact oa se KQ (fun aaH a q=>by cases q;exact .inr rfl) cE.kp
    ·have RL:bh bE (fun b=>plus X a b∨b=a') I Dr:=KQ.more fun b (y:plus X a b∨b=a')=>y.imp id fun (q:b=a')=>q ▸ V7
     exact (oa se RL (fun aaH a q=>by cases q;exact .inl (.inr rfl)) cE.kp).less fun b y=>y.elim (fun y=>.inl (.inl y)) .inr
  ·exact cL.ret KR KS eW cU dN (by rw[lE];rfl) (cE.KJ kh st.lo st.held st.stays) rp
  ·exact gn (s:={ s with heap:=cU,toks:=dN }) (cE.KJ kh st.lo st.held st.stays) rfl (y.elder kh) fun wg KV KW=>cL.exc z eW e wg dN (by rw[lE];rfl) KV KW.weak
theorem OS:BI prog w base cl D n c9 sc j [] .nil:=fun A X ec J h₀ s x e st y Q E p aq=>by
 rw[QR] at aq;exact absurd rfl aq
theorem BI.cons {t:Expr}{hv:Value}{Hm:Stmt}{suite:List Stmt}{pos:Pos}{rest:List ExceptHandler}{hc:Hc}{pb:aA}{ps:Ij} (Rc:Dq prog w base cl hc hv)
  (ht:∀ (A:Around) (X:Addr->Prop) (ec:Env) (J:Ρ) (s:Shared) (Q E:Value->Shared->Prop),At base n A X none sc j ec J s.heap->Q hv s->wpAny (model prog w) A (eval t ec) Q E s)
  (hb:bY prog w base cl D n none c9 sc j (Hm::suite) pb) (hr:BI prog w base cl D n c9 sc j rest ps) :
  BI prog w base cl D n c9 sc j (.ExceptHandler (some t) none (Hm::suite) pos::rest) (.cons hc pb ps):=fun A X ec J h₀ s x e st y Q E p aq=>by
 rw[QS] at p aq
 have RB:(Value.ref e)≠byPass:=by intro q;contradiction
 obtain⟨n1,⟨kc,ch⟩,oe,vs,he,Hz,hd,Oe⟩:=id y
 have at':At base n (A.mark (some (.ref e))) X none sc j ec J s.heap:=⟨st.at'.rel,⟨st.at'.cx.stack,st.at'.cx.stays,.inr ⟨e,kc,rfl,ch⟩,st.at'.cx.depth,st.at'.cx.units⟩,st.at'.ge,st.at'.scope,st.at'.low,st.at'.new⟩
 refine Br (codeAny_handlers_test (ht _ X ec J s _ _ at' (Rc _ s x e _ _ st.at'.cx.stays ⟨oe,vs,he,Hz,hd⟩ ?_))).g RB
 cases hq:hc.lP x with
 | false=>
  rw[hq] at p aq
  exact hr A X ec J h₀ s x e st y Q E p aq
 | true=>
  rw[hq,if_pos rfl] at p aq
  refine Ou ?_
  refine fx (base:=base) y fun ai kn OU=>?_
  have ct:=st.uC kn
  refine b5 (id OU) fun O mj O=>?_;obtain⟨U3,U4⟩:=mj
  refine aB ct.hide fun se kh=>?_
  have Qq:cy (A.mark (some (.ref e))) (hideAll ai (hidden ec none)):=.inr ⟨e,U3,rfl,U4.keeps fun O z o O cz e O O=>hideAll_get _ e fun q=>by
   rcases List.mem_cons.mp q with q | q
   ·subst q
    obtain⟨_,o',e',bk⟩:=ct.mM
    refine eA cz.get fun OL vs O zz=>nk zz fun e3 O O d O=>?_
    rw[e'] at e3;injection e3 with e3;subst e3;exact bk.eK _ d
   ·contradiction⟩
  have fj:St base n (A.mark (some (.ref e))) X none sc j ec J (hideAll ai (hidden ec none)) ai:=⟨⟨se.at'.rel,⟨se.at'.cx.stack,se.at'.cx.stays,Qq.kept se.kp,se.at'.cx.depth,se.at'.cx.units⟩,se.at'.ge,se.at'.scope,se.at'.low,se.at'.new⟩,se.top,se.fr,se.ns,se.kp,se.nL,se.own,se.lo,Qq,se.stays⟩
  have back:∀ {jD ρ' h'},St base n (A.mark (some (.ref e))) X jD sc j ec ρ' (hideAll ai (hidden ec none)) h'->St base n A X jD sc j ec ρ' h₀ h':=fun z=>by
   have kp:=kh.trans z.kp
   exact⟨⟨z.at'.rel,⟨z.at'.cx.stack,z.at'.cx.stays,st.held.kept kp,z.at'.cx.depth,z.at'.cx.units⟩,z.at'.ge,z.at'.scope,z.at'.low,z.at'.new⟩,z.top,z.fr,z.ns,kp,st.nL,fun aaH a q=>⟨kh.missing (z.own aaH a q).1,(z.own aaH a q).2⟩,st.lo,st.held,st.stays⟩
  refine hb (A.mark (some (.ref e))) X ec J _ { s with heap:=ai } none rfl fj _ _ ⟨fun eW yO cU dN lE mR cE=>?_,fun KR KS eW cU dN lE cE rp=>?_,fun z eW lE cU dN R6 cE BJ=>?_⟩ aq
  ·exact p.next eW yO cU dN lE mR (back cE)
  ·exact p.ret KR KS eW cU dN lE (back cE) rp
  ·exact gn (A:=A) (s:={ s with heap:=cU,toks:=dN }) (back cE) rfl (BJ.elder kh) fun wg KV KW=>p.exc z eW lE wg dN R6 KV KW.weak
theorem bJ.try {b:List Stmt}{c₀:ExceptHandler}{cs:List ExceptHandler}{pos:Pos}{pb:aA}{ps:Ij} (hb:bY prog w base cl D n none c9 sc j b pb) (hh:BI prog w base cl D n c9 sc j (c₀::cs) ps) :
  bJ prog w base cl D n none c9 sc j (.Try b (c₀::cs) [] [] pos) (.try pb ps):=fun A X ec J h₀ s ow ho st Q E p aq=>by
 obtain rfl:=gX ho
 rw[Ms] at p aq
 refine Um (hb A X ec J h₀ s none rfl st _ _ ⟨fun eW yO cU dN lE mR cE=>?_,fun KR KS eW cU dN lE cE rp=>?_,fun z eW e cU dN R6 cE BJ=>?_⟩ fun q=>aq (by rw[q]))
 ·exact (wpAny_execs_nil (p.next eW yO cU dN (by rw[lE]) mR cE)).g
 ·exact p.ret KR KS eW cU dN (by rw[lE]) cE rp
 ·rw[R6] at p aq
  refine Exists.elim cE.frames fun outer zz=>aB zz fun yt hF=>?_
  refine iC (base:=base) (h₀:=h₀) (s:={ s with heap:=cU,toks:=dN }) yt hF cE.fr BJ cE.kp fun wg kn KW=>?_
  refine fx (base:=base) (s:={ s with heap:=wg,toks:=dN }) KW fun W5 S7 W6=>?_
  exact hh A X ec eW h₀ { s with heap:=W5,toks:=dN } z e (cE.uC (kn.trans S7)) W6 Q E p.move aq
end
section
variable {prog:Program}{w:World}{base:Heap}{cl:dB->Value}{A:Around}{X:Addr->Prop}{s:Shared}{D:Fn->List V->R V}{n:Nat}{sc:Scope}{j:List (PySem.Str × Nat)}{K:Frag}{ec:Env}{J:Ρ}{h₀:Heap}{ow:Owner}{own c9:Option Nat}
theorem yP {d:V} (hf:d.gu=true) {g g':Addr->Obj->Prop}{v:Value} (r:Rep g d v):Rep g' d v:=by
 cases d<;>first | (contradiction;done) | (skip;exact r)
theorem lF {x:PySem.Str}{pos:Pos}{i:Nat}{d:V}{h:Heap}{Q E:Value->Shared->Prop} (st:St base n A X ow sc j ec J h₀ s.heap) (j8:j.lookup x=some i) (hi:J[i]?=some (some d)) (hd:(x == ("__debug__":PySem.Str))=false) (hc:(x == ("__classdict__":PySem.Str))=false)
  (hQ:∀ v,eB s.heap X ow i d v->Q v s):wpAny (model prog w) A (eval (.Name x pos) ec) Q E s:=by
 refine Exists.elim (st.at'.rel x i d j8 hi) fun v zz=>aB zz fun hv hr=>?_
 exact yH (h:=s.heap) st.at'.ge hv (hQ v hr) hd hc
set_option tactic.hygienic true in
theorem bJ.aug {f1:Bool}{x:PySem.Str}{px pos:Pos}{e:Expr}{p:PE}{i:Nat} (he:aL prog w base cl D n f1 sc j e p) (hk:sc.names.lookup x=some .local) (j8:j.lookup x=some i) (hinj:∀ z,j.lookup z=some i->z=x) (UX:∀ aaH,own=some aaH->i≠aaH)
  : bJ prog w base cl D n own own sc j (.AugAssign (.Name x px) .Add e pos) (.aug i p):=fun A X ec J h₀ s ow ho st Q E po aq=>by
 rw[QN] at po aq
 cases q:J[i]? with
 | none=>rw[q] at aq;exact absurd rfl aq
 | some o=>
  cases o with
  | none=>rw[q] at aq;exact absurd rfl aq
  | some d=>
   cases d<;>rw[q] at po aq<;>try exact absurd rfl aq
   rename_i a
   dsimp only at po aq
   refine Exists.elim (st.freeze.at'.rel x i _ j8 q) fun v zz=>aB zz fun hv hr=>?_
   have VP:Var s.heap ec x v:=hv
   refine Exists.elim (gk (g:=seen X s.heap) hr) fun t av=>?_;subst av
   have d9:ec.kindOf x=some .local:=by unfold Env.kindOf;rw[st.at'.scope];exact hk
   rcases VP with ⟨_,ZQ,U5,hx⟩ | ⟨q',_⟩
   ·refine nZ (wpAny_loadName_local st.at'.ge.kind d9 U5 hx (he A X ec J s st.freeze.at' _ _ ⟨fun d v ai tk e₁ k rp O=>?_,po.ex st⟩ (fW aq)))
    have ao:=fz aq e₁
    have cL:=po.step (h:=ai) (tk:=tk) e₁
    cases d<;>try exact absurd rfl ao
    rename_i b
    dsimp only at cL ao
    refine aP rp fun u=>?_
    refine P.iadd_int (s:={ s with heap:=ai,toks:=tk }) ?_
    have ct:=st.kept k
    refine Exists.elim ct.ns fun m hm=>?_
    refine wpAny_storeName_local (s:={ s with heap:=ai,toks:=tk+1 }) d9 hm (fun aD hn hs=>?_) (ei st.at'.ge)
    refine cL.next _ ow aD _ rfl ho (ct.store hm hn hs hk hinj j8 (jD:=ow) ?_ (fun z aaH d' hz e1 e2=>ct.at'.rel z aaH d' e1 e2) ct.own)
    unfold eB
    cases ow with
    | none=>exact bB _ _
    | some q=>obtain⟨aaH,a'⟩:=q;dsimp only;rw[if_neg (UX aaH (by rw[<- ho];rfl))];exact bB _ _
   ·rw[d9] at q';rcases q' with q' | q'<;>contradiction
set_option tactic.hygienic true in
theorem bJ.setItem {f1 f2:Bool}{x:PySem.Str}{px pp pos:Pos}{e ie:Expr}{p ip:PE}{i:Nat} (he:aL prog w base cl D n f1 sc j e p) (hi:aL prog w base cl D n f2 sc j ie ip) (j8:j.lookup x=some i)
  (hd:(x == ("__debug__":PySem.Str))=false) (hc:(x == ("__classdict__":PySem.Str))=false)
  (Hy:∀ env,swapsWith e (some (.Subscript (.Name x px) ie pp)) pos.line env=pure false):bJ prog w base cl D n (some i) none sc j (.Assign [.Subscript (.Name x px) ie pp] e pos) (.setItem i ip p):=fun A X ec J h₀ s ow ho st Q E po aq=>by
 refine Exists.elim (gY ho) fun a av=>?_;subst av
 refine lu (he A X ec J s st.freeze.at' _ _ ⟨fun d v ai tk e₁ k rp O=>?_,po.ex st⟩ (fW aq)) (Hy ec)
 have ao:=fz aq e₁
 have cL:=po.step (h:=ai) (tk:=tk) e₁
 have ct:=st.kept k
 cases q:J[i]? with
 | none=>rw[q] at ao;exact absurd rfl ao
 | some o=>
  cases o with
  | none=>rw[q] at ao;exact absurd rfl ao
  | some dl=>
   cases dl<;>rw[q] at cL ao<;>try exact absurd rfl ao
   rename_i xs
   refine (lF (h:=ai) (s:={ s with heap:=ai,toks:=tk }) ct j8 q hd hc fun vl si=>?_).g
   unfold eB at si
   dsimp only at si
   rw[if_pos rfl] at si
   refine aB si fun av mO=>?_;try clear si;subst av
   refine hi A X ec J { s with heap:=ai,toks:=tk } ct.freeze.at' _ _ ⟨fun kd kv aD bD bK k₂ rk yt=>?_,cL.ex ct⟩ (fW ao)
   clear yt
   revert rk
   intro rk
   have cI:=fz ao bK
   have yQ:=cL.step (h:=aD) (tk:=bD) bK
   obtain⟨kk,rfl⟩:∃ kk,kd=.int kk:=by cases kd<;>first | exact⟨_,rfl⟩ | exact absurd rfl cI
   refine aP rk fun u=>?_
   dsimp only at cI yQ
   by_cases s7:0<=kk/\kk<xs.length/\d.gu=true
   ·rw[if_pos s7] at yQ
    have fj:=ct.kept k₂
    have OV:=mO.kept k₂
    refine eA OV fun o vs nn zz=>zl zz fun g c dn W7 hl rl=>?_
    have j4:vs.size=xs.length:=by have:=rl.length;simpa using this
    refine wpAny_setItem_list (s:={ s with heap:=aD,toks:=bD }) ⟨o,g,c,nn,W7⟩ s7.1 (by lia) (by lia) fun bE U6 Ds=>?_
    obtain⟨OL,U7,c₃,W8,Ox⟩:=id U6
    have hX:¬ X a:=(st.own i a rfl).2.1
    refine yQ.next _ none bE bD rfl rfl (fj.turned (y:=x) Ds.extBut ?_ U7 j8 q)
    rw[Bi]
    refine⟨a,OL,_,W8,rfl,⟨U7,hX⟩,c₃,Ox,by simpa using hl,?_⟩
    rw[Array.toList_setIfInBounds]
    have ZR:ay (seen X bE) xs vs.toList:=(rl.extBut (X:=plus X a) Ds.extBut (.inr rfl)).drop'
    exact ZR.set _ (yP s7.2.2 rp)
   ·rw[if_neg s7] at cI;exact absurd rfl cI
theorem plainAttrs_list:PlainAttrs "list":=⟨⟨_,list_getattribute,by rw[canon_list_getattribute]⟩,list_getattr_none⟩
set_option tactic.hygienic true in
theorem bJ.append {f1:Bool}{x:PySem.Str}{px ap cp pos:Pos}{e:Expr}{p:PE}{i:Nat} (he:aL prog w base cl D n f1 sc j e p) (j8:j.lookup x=some i)
  (gg:notStar e=true)
  (hline:(ap.endLine == cp.line)=true)
  (hd:(x == ("__debug__":PySem.Str))=false) (hc:(x == ("__classdict__":PySem.Str))=false)
  (Hy:∀ env,swapsWith (.Call (.Attribute (.Name x px) "append" ap) [e] [] cp) none pos.line env=pure false):bJ prog w base cl D n (some i) (some i) sc j (.Expr (.Call (.Attribute (.Name x px) "append" ap) [e] [] cp) pos) (.append i p):=fun A X ec J h₀ s ow ho st Q E po aq=>by
 refine Exists.elim (gY ho) fun a av=>?_;subst av
 cases q:J[i]? with
 | none=>rw[uU,q] at aq;exact absurd rfl aq
 | some o=>
  cases o with
  | none=>rw[uU,q] at aq;exact absurd rfl aq
  | some dl=>
   cases dl<;>first | (rw[uU,q] at aq;exact absurd rfl aq) | skip
   ·rename_i xs
    rw[uU,q] at po aq
    have Oe:∀ env,starEach [e] env=[(false,eval e env)]:=fun env=>aR gg
    refine Bs (gy rfl (by rw[Oe];rfl) hline ?_) (by unfold interactive;rw[st.at'.ge.kind];rfl) (Hy ec)
    refine (lF (h:=s.heap) st j8 q hd hc fun vl si=>?_).g
    unfold eB at si
    dsimp only at si
    rw[if_pos rfl] at si
    refine aB si fun av mO=>?_;try clear si;subst av
    refine eA (id mO) fun o vs nn zz=>zl zz fun g c dn W7 hl rl=>?_
    refine⟨"list","list.append",plainAttrs_list,slot_list_append,type_list_append,⟨o,g,c⟩,fun b hb=>⟨o,by injection hb with hb;subst hb;exact g,dn⟩,?_⟩
    rw[Oe]
    refine cn rfl (c5 (cR (he A X ec J s st.freeze.at' _ _ ⟨fun d v ai tk e₁ k rp O=>(spliced_nil ?_).g,po.ex st⟩ (fW aq))))
    have ao:=fz aq e₁
    have cL:=po.step (h:=ai) (tk:=tk) e₁
    by_cases s7:xs.length<lim/\d.gu=true
    ·rw[if_pos s7] at cL
     have ct:=st.kept k
     refine eA (mO.kept k) fun pH Dh n₁ zz=>zl zz fun g₁ c₁ Dt yR ZS U8=>?_
     have j4:=U8.length
     have Qm:lim<=16777215:=by decide
     refine (list_append_plainL (s:={ s with heap:=ai,toks:=tk }) ⟨pH,n₁,g₁,c₁,Dt,yR⟩ (fun aD hp yS=>?_) (by have:=bu;simp at j4;lia)).g
     refine bT hp fun r7 W9 zz=>iV zz fun R7 c₂ U9 Kx=>?_
     refine cL.next _ (some (i,a)) aD tk rfl rfl (ct.turn (y:=x) yS.extBut ?_ j8 q)
     refine⟨r7,_,W9,R7,c₂,U9,Kx,by simp;lia,?_⟩
     rw[Array.toList_push]
     exact (U8.extBut yS.extBut (.inr rfl)).append (.cons (yP s7.2 rp) .nil)
    ·rw[if_neg s7] at ao;exact absurd rfl ao
set_option tactic.hygienic true in
theorem St.lets {C:Addr}{hs h h':Heap} (x:St base n A X ow sc j ec J h₀ h) (old:∀ l,A.frames=some l->Frames base hs l) (nC:hs.get? C=none) (n0:h₀.get? C=none) (bk:∃ o,h.get? C=some o/\book o) (t:Heap.ExtBut C h h') (hL:ec.locals≠C) :
  St base n A X ow sc j ec J h₀ h':=by
 have kp:=x.kp.extBut n0 t
 refine Exists.elim bk fun oC zz=>aB zz fun hC bC=>?_
 have ne:∀ {b o},h.get? b=some o->¬ book o->h'.get? b=some o:=fun {b o} e f=>t b o (fun q=>by subst q;rw[hC] at e;injection e with e;subst e;exact f bC) e
 have rep:∀ {Y:Addr->Prop}{d v},Rep (seen Y h) d v->Rep (seen Y h') d v:=fun r=>r.mono fun a o e q=>⟨ne e.1 (b7 q),e.2⟩
 have j5:∀ {Y:Addr->Prop}{d v},ay (seen Y h) d v->ay (seen Y h') d v:=fun r=>r.mono fun a o e q=>⟨ne e.1 (b7 q),e.2⟩
 have frames:∀ {l:List Env},Frames base hs l->Frames base h l->Frames base h' l:=by
  intro l
  induction l with
  | nil=>exact fun O O=>trivial
  | cons env r ih=>
   rintro ⟨_,⟨Xa,pH,Qr,_,Va,_⟩,Vb⟩ ⟨hk,⟨L,o,hf,hn,ho,hc,hd⟩,hr⟩
   obtain rfl:L=Xa:=by rw[hf] at Qr;exact Option.some.inj Qr
   exact⟨hk,⟨L,o,hf,hn,t _ _ (fun q=>by rw[q,nC] at Va;contradiction) ho,hc,hd⟩,ih Vb hr⟩
 have ns:∀ {f},h.Ns ec.locals f->h'.Ns ec.locals f:=fun ⟨o,es,ep,h1,h2,r⟩=>⟨o,es,ep,t _ _ hL h1,h2,r⟩
 refine⟨⟨fun z i d e1 e2=>?_,⟨?_,kp.stays x.stays,x.held.kept kp,x.at'.cx.depth,x.at'.cx.units⟩,x.at'.ge,x.at'.scope,x.lo.kept kp,x.at'.new⟩,x.top,x.fr,x.ns.imp fun O=>ns,kp,x.nL,fun aaH a e=>?_,x.lo,x.held,x.stays⟩
 ·refine Exists.elim (x.at'.rel z i d e1 e2) fun v zz=>aB zz fun hv hr=>?_
  refine⟨v,?_,?_⟩
  ·rcases hv with ⟨q,m',Dg,hu⟩ | ⟨q,c,hc,o,h1,h2⟩
   ·exact .inl ⟨q,m',ns Dg,hu⟩
   ·exact .inr ⟨q,c,hc,o,ne h1 (fun ⟨_,_,z⟩=>by rw[h2] at z;contradiction),h2⟩
  ·unfold eB at hr ⊢
   split
   ·dsimp only at hr
    split at hr
    ·rename_i q;rw[if_pos q]
     refine⟨hr.1,?_⟩
     have R5:=hr.2
     cases d<;>first | exact R5.elim | skip
     ·refine eA R5 fun o y n zz=>nk zz fun e c dn hd r=>?_
      exact⟨o,y,n,ne e (dM hd),c,dn,hd,r⟩
     ·refine eA R5 fun o vs n zz=>zl zz fun e c dn hd l r=>?_
      exact⟨o,vs,n,ne e (cC hd),c,dn,hd,l,j5 r⟩
    ·rename_i q;rw[if_neg q];exact rep hr
   ·exact rep hr
 ·refine Exists.elim x.at'.cx.stack fun l zz=>aB zz fun e f=>?_
  exact⟨l,e,frames (old l e) f⟩
 ·obtain⟨h1,h2,h3,o,h4,h5,h6⟩:=x.own aaH a e
  exact⟨h1,h2,h3,o,ne h4 h5,h5,h6⟩
theorem yT {f1:Bool}{elt iter:Expr}{x y:PySem.Str}{px py pos spos:Pos}{ifs:List Expr}{scope:Scope}{pM pc:PE}{Ma:uT}{k i:Nat}{cap:List (PySem.Str × Nat)}{mQ:PS}
  (hit:jC prog w base cl D n sc j iter Ma) (hc:tg prog w base cl D n (bz scope sc) ((x,k)::cap) ifs pc) (he:aL prog w base cl D n f1 (bz scope sc) ((x,k)::cap) elt pM)
  (d9:scope.kind=.function) (du:∀ y∈scope.names,y.2≠.cell) (hx:scope.names.lookup x=some .local) (ly:∀ y∈scope.names,y.2=.local->scope.names.lookup y.1=some .local)
  (mL:∀ y,(y,NameKind.free)∈scope.names->sc.names.lookup y=some .cell)
  (BF:∀ y i,cap.lookup y=some i->j.lookup y=some i/\i≠k/\(y,NameKind.free)∈scope.names/\(bz scope sc).names.lookup y=some .cell)
  (hk:sc.names.lookup y=some .local) (j8:j.lookup y=some i) (hinj:∀ z,j.lookup z=some i->z=y)
  (gg:∀ J,bQ D mQ J=(ak D (.comp pM k Ma pc) J).on J fun v=>match v with | .list _=>.next (J.set i (some v)) | .b9 _=>.next (J.set i (some v)) | _=>.stuck)
  (Hy:∀ env:Env,env.scope=sc->env.scope.kind=.function->swapsWith (.ListComp elt [⟨.Name x px,iter,ifs,0⟩] scope pos) (some (.Name y py)) spos.line env=pure true)
  (hs:∀ env x,foldedSetIterable iter env x=pure x):bJ prog w base cl D n own (some i) sc j (.Assign [.Name y py] (.ListComp elt [⟨.Name x px,iter,ifs,0⟩] scope pos) spos) mQ:=bJ.freeze fun A X ec J h₀ s ow ho st Q E po aq=>by
 obtain rfl:=gX ho
 rw[gg] at po aq
 rw[exec_Assign_Name_used _ _ _ _ (Hy ec st.at'.scope st.at'.ge.kind)]
 refine au (aI ?_)
 show aK _ A (do let _ <- comprehension (.ListComp elt [⟨.Name x px,iter,ifs,0⟩] scope pos) scope ec _ (newList []) false (eval iter ec) (some (assign (.Name y py) ec))) _ _ s
 refine aw (uK (use:=some (assign (.Name y py) ec)) (Q:=fun O s'=>Q .next s') hit hc he d9 du hx ly mL BF hs st.at' (fun done h' tk aaG C e kp o nD nC V4 hm=>?_) (po.ex st) (fW aq)) (fun O s' hq=>aF (aF hq))
 have ct:=st.kept kp
 refine Exists.elim ct.ns fun m Yk=>?_
 refine Exists.elim hm fun mC hC=>?_
 show wpAny _ A (assign (.Name y py) ec (.ref aaG)) _ _ _
 refine wpAny_assign_Name (wpAny_storeName_local (s:={ s with heap:=h',toks:=tk }) (by unfold Env.kindOf;rw[st.at'.scope];exact hk) Yk (fun aD Vc yS=>?_) (ei st.at'.ge))
 have Yl:C≠ec.locals:=fun q=>by
  obtain⟨_,o',e',_⟩:=st.mM
  rw[<- q,nC] at e';contradiction
 refine Exists.elim (o7 st kp ⟨aaG,rfl,nD,o⟩ Yk Vc yS hk j8 hinj) fun a fj=>?_
 refine eA hC fun oC es pC zz=>b5 zz fun c1 c2 c3=>?_
 have Ym:=yS.extBut _ _ Yl c1
 refine⟨mC,⟨oC,es,pC,Ym,c2,c3⟩,fun bE Ds=>?_⟩
 refine po.next (J.set i (some (.list done))) (some (i,a)) bE _ (by rw[kG e]) rfl (fj.lets (hs:=s.heap) (C:=C) (fun l el=>?_) nC (st.kp.missing nC) ⟨oC,Ym,_,_,c2⟩ Ds.extBut (Ne.symm Yl))
 refine Exists.elim st.frames fun outer zz=>aB zz fun fr f=>?_
 rw[fr] at el;injection el with el;subst el;exact f
end
section
variable {prog:Program}{w:World}{base:Heap}{cl:dB->Value}{A:Around}{X:Addr->Prop}{s:Shared}{D:Fn->List V->R V}{n:Nat}{sc:Scope}{j:List (PySem.Str × Nat)}{K:Frag}
theorem wt {c9:Option Nat}{ec:Env}{body:List Stmt}{pb:aA}{ds:List V}{ws:List Value}{ai:Heap}{tk k:Nat}{m:PySem.Str->Option Value}{L:Addr}
  (hb:bY prog w base cl D n none c9 sc j body pb) (cx:Cx base A s.heap (n+1)) (low:ni X s.heap) (new:∀ a,X a->base.get? a=none) (hL:L=s.heap.objs.size)
  (pJ:ec.locals=L) (yt:ec.frame=some L) (S5:ec.scope=sc) (ge:Ge ec) (Mb:ai.Ns L m) (Vd:∀ b o,s.heap.get? b=some o->ai.get? b=some o)
  (rp:ay (seen X s.heap) ds ws) (Xb:∀ x i v,j.lookup x=some i->ws[i]?=some v->Var ai ec x v) {Q E:Value->Shared->Prop}
  (p:Po base cl X false s (aj D pb (ds.map some++List.replicate k none)).value Q E) (aq:aj D pb (ds.map some++List.replicate k none)≠.stuck) :
  aK (model prog w) (A.deeper ec) (execs body ec) (fun f s'=>Q (match f with | .ret v=>v | _=>.none) s')
   (fun e s'=>wpAny (model prog w) (A.deeper ec) (leaving ec e) (fun O v8=>E e v8) (fun e' v8=>E e' v8) s') { s with heap:=ai,toks:=tk }:=by
 have kp:Kept base s.heap ai:=.of_keeps Vd
 refine Exists.elim cx.stack fun l zz=>aB zz fun hl hF=>?_
 have ZU:base.get? L=none:=by
  cases q:base.get? L with
  | none=>rfl
  | some o=>have:=cx.stays L o q;rw[hL,bS] at this;contradiction
 refine eA (id Mb) fun oL es ep zz=>b5 zz fun ZV Yn O=>?_
 have fr:(A.deeper ec).frames=some (ec::l):=by show A.frames.map (ec::·)=_;rw[hl];rfl
 have held:cy (A.deeper ec) s.heap:=cx.held
 have st:St base n (A.deeper ec) X none sc j ec (ds.map some++List.replicate k none) s.heap ai:=by
  refine⟨⟨fun x i d e1 e2=>?_,⟨⟨_,fr,by rw[ge.kind];decide,⟨L,oL,yt,ZU,ZV,⟨_,_,Yn⟩,book.eK ⟨_,_,Yn⟩⟩,hF.kept kp⟩,kp.stays cx.stays,held.kept kp,?_,?_⟩,ge,S5,low.kept kp,new⟩,⟨l,fr⟩,pJ ▸ yt,⟨m,pJ ▸ Mb⟩,kp,by rw[pJ,hL];exact bS _,(fun O O q=>by contradiction),low,held,cx.stays⟩
  ·have hi:ds[i]?=some d:=by
    by_cases q:i<(ds.map some).length
    ·rw[List.getElem?_append_left q,List.getElem?_map] at e2
     cases z:ds[i]? with
     | none=>rw[z] at e2;contradiction
     | some d'=>rw[z] at e2;cases e2;rfl
    ·rw[List.getElem?_append_right (by lia),List.getElem?_replicate] at e2
     split at e2<;>cases e2
   refine Exists.elim (rp.get hi) fun v zz=>aB zz fun hv hr=>?_
   exact⟨v,Xb x i v e1 hv,kp.rep hr⟩
  ·have:=cx.depth;show A.depth+1+n<=900;lia
  ·have:=cx.units;show A.units+3+10*n<=9000;lia
 refine hb (A.deeper ec) X ec _ s.heap { s with heap:=ai,toks:=tk } none rfl st _ _ ⟨fun ρ' jD h' mz e O mQ=>?_,fun d v ρ' h' mz e mQ rv=>?_,fun x ρ' e h' mz q mQ y=>?_⟩ aq
 ·exact p.ok .none .none h' mz (by rw[e];rfl) mQ.kp rN fun q=>by contradiction
 ·exact p.ok d v h' mz (by rw[e];rfl) mQ.kp rv fun q=>by contradiction
 ·refine Exists.elim mQ.frames fun outer zz=>aB zz fun Xc ZW=>?_
  refine wpAny_bind (iC (base:=base) (h₀:=s.heap) (s:={ s with heap:=h',toks:=mz }) Xc ZW mQ.fr y mQ.kp fun aD kn R8=>?_)
  refine fx (base:=base) (s:={ s with heap:=aD,toks:=mz }) R8 fun bE S7 Xd=>?_
  exact p.ex x e bE mz (by rw[q];rfl) (mQ.kp.after (kn.trans S7)) Xd.weak
theorem sj {α:Type}:∀ {ps:List PySem.Str}{ws:List α}{i:Nat}{x:PySem.Str}{v:α},ps.Nodup->ps[i]?=some x->ws[i]?=some v->(ps.zip ws).reverse.lookup x=some v
 | [],_,i,_,_,_,h,_=>by simp at h
 | p::ps,[],i,_,_,_,_,h=>by simp at h
 | p::ps,u::ws,i,x,v,nd,h1,h2=>by
  have Yo:=List.nodup_cons.mp nd
  rw[List.zip_cons_cons,List.reverse_cons,List.lookup_append]
  cases i with
  | zero=>
   simp at h1 h2
   subst h1;subst h2
   have hn:(ps.zip ws).reverse.lookup p=none:=by
    rw[List.lookup_eq_none_iff]
    intro q hq
    have:=List.of_mem_zip (List.mem_reverse.mp hq)
    simp only[bne_iff_ne,ne_eq,beq_eq_false_iff_ne]
    intro e;exact Yo.1 (e ▸ this.1)
   rw[hn];simp[List.lookup]
  | succ i=>
   simp at h1 h2
   rw[sj Yo.2 h1 h2];rfl
structure KY (K:Frag) (a:Addr) (fd:FuncData) (body:List Stmt) (ps:List PySem.Str) (j:List (PySem.Str × Nat)):Prop where
 here:∃ oc od V8,K.lookup a=some ⟨oc,od,.func fd,V8⟩
 code:codeIn K fd.code fd.qualname=true
 body:fd.body=.stmts body
 globals:fd.globals=mainGlobals
 builtins:fd.builtins=builtinsNs
 closure:fd.closure=[]
 co:fd.scope.isCoroutine=false
 gen:fd.scope.isGenerator=false
 kind:fd.scope.kind=.function
 BK:∀ x∈fd.scope.names,x.2≠.free
 nodup:ps.Nodup
 slots:∀ x i,j.lookup x=some i->i<ps.length->ps[i]?=some x
def Binds (K:Frag) (fd:FuncData) (ps:List PySem.Str) (d:aY):Prop:=∀ (s:Shared) (g:Addr->Obj->Prop) (ds:List V) (vs:List Value) (J:Ρ),K.In s.heap->d.start ds=some J->ay g ds vs->
 ∃ (ws:List Value) (Dr:List V) (k:Nat),BindsTo s fd ⟨vs,[]⟩ (ps.zip ws)/\ws.length=ps.length/\ay g Dr ws/\J=Dr.map some++List.replicate k none
theorem Qs {c9:Option Nat}{a:Addr}{fd:FuncData}{body:List Stmt}{ps:List PySem.Str}{d:aY} (W:Wd K base) (I:KY K a fd body ps j) (du:∀ x∈fd.scope.names,x.2≠.cell) (pJ:∀ x∈ps,fd.scope.names.lookup x=some .local)
  (B:Binds K fd ps d) (hb:bY prog w base cl D n none c9 fd.scope j body d.body) (ds:List V) (vs:List Value) (cx:Cx base A s.heap (n+1)) (low:ni X s.heap) (new:∀ a,X a->base.get? a=none) (rp:ay (seen X s.heap) ds vs) :
  kE prog w base cl A X false (call (.ref a) vs []) s (match d.start ds with | some J=>(aj D d.body J).value | none=>.stuck):=by
 cases gg:d.start ds with
 | none=>exact .stuck
 | some J=>
  intro Q E p aq
  refine kK W.top fun Ve loose mg mb T=>?_
  have jy:K.In s.heap:=fun b o q=>cx.stays b o (W.jy b o q)
  refine eA (B s _ ds vs J jy gg rp) fun ws Dr k zz=>iV zz fun mE hlen ZX av=>?_;clear zz;subst av
  refine eA I.here fun oc od V8 hl=>?_
  refine lr (Bt (fd:=fd) (body:=body) (binds:=ps.zip ws) (by have:=cx.depth;show A.depth<1000;lia) (jy _ _ hl) rfl (T.nolimit.keeps cx.stays) (codeRec_of jy I.code) I.body mE du
   (fun x hx=>pJ _ (List.of_mem_zip hx).1) (fun ai Mb hk=>?_) I.co I.gen I.kind)
  have ge:Ge (callEnv fd s.heap.objs.size a):=⟨I.kind,I.globals,I.builtins,fun y hy=>by
   rcases hy with hy | hy
   ·exact absurd rfl (du _ (lookup_mem hy))
   ·exact absurd rfl (I.BK _ (lookup_mem hy))⟩
  refine wt (j:=j) (sc:=fd.scope) hb cx low new rfl rfl rfl rfl ge Mb hk ZX (fun x i v e1 e2=>?_) p fun q=>aq (by dsimp only;rw[q];rfl)
  have hi:i<ps.length:=by have:=(List.getElem?_eq_some_iff.mp e2).1;lia
  have hx:=I.slots x i e1 hi
  exact .inl ⟨pJ x (List.mem_of_getElem? hx),_,Mb,sj I.nodup hx e2⟩
set_option tactic.hygienic true in
theorem o8 {c9:Option Nat}{a:Addr}{fd:FuncData}{body:List Stmt}{gZ:PySem.Str}{d:aY} (W:Wd K base) (I:KY K a fd body [gZ] j) (du:fd.scope.names.lookup gZ=some .cell) (R9:∀ y,(y,NameKind.cell)∈fd.scope.names->y=gZ)
  (Hz:∀ b,(cellsFrom b fd.scope.names []).lookup gZ=some b) (hd:d.params=1) (Sa:d.defaults=[]) (mE:∀ v,bindArgs fd ⟨[v],[]⟩=pure [(gZ,v)])
  (hb:bY prog w base cl D n none c9 fd.scope j body d.body) (ds:List V) (vs:List Value) (cx:Cx base A s.heap (n+1)) (low:ni X s.heap) (new:∀ a,X a->base.get? a=none) (rp:ay (seen X s.heap) ds vs) :
  kE prog w base cl A X false (call (.ref a) vs []) s (match d.start ds with | some J=>(aj D d.body J).value | none=>.stuck):=by
 cases gg:d.start ds with
 | none=>exact .stuck
 | some J=>
  intro Q E p aq
  refine kK W.top fun Ve loose mg mb T=>?_
  have jy:K.In s.heap:=fun b o q=>cx.stays b o (W.jy b o q)
  obtain⟨iT,rfl,rfl⟩:∃ iT,ds=[iT]/\J=[iT].map some++List.replicate (d.locals - d.params) none:=by
   unfold aY.start at gg
   rw[hd,Sa] at gg
   split at gg
   ·rename_i q
    simp at q
    obtain⟨iT,rfl⟩:∃ iT,ds=[iT]:=List.length_eq_one_iff.mp (by lia)
    exact⟨iT,rfl,by rw[hd];simpa using gg.symm⟩
   ·contradiction
  have S8:=rp
  simp only[dr,cZ] at S8
  refine bT S8 fun BH r zz=>b5 zz fun av r0 gQ=>?_;clear zz;try clear S8;subst av;subst gQ
  refine eA I.here fun oc od V8 hl=>?_
  have OW:(cellsFrom (s.heap.objs.size+1) fd.scope.names []).lookup gZ=some (s.heap.objs.size+1):=Hz _
  refine lr (mF (fd:=fd) (body:=body) (binds:=[(gZ,BH)]) (by have:=cx.depth;show A.depth<1000;lia) (jy _ _ hl) rfl (T.nolimit.keeps cx.stays) (codeRec_of jy I.code) I.body (mE BH) I.closure
   (fun x hx=>by simp at hx;subst hx;exact .inr ⟨du,by rw[OW];rfl⟩) (fun s₁ ic=>?_) I.co I.gen I.kind)
  refine bT ic.toInCall.same fun ai tk av=>?_;subst av
  have ge:Ge (callEnvC fd s.heap.objs.size a):=⟨I.kind,I.globals,I.builtins,fun y hy=>by
   rcases hy with hy | hy
   ·obtain rfl:=R9 y (lookup_mem hy)
    exact⟨_,OW⟩
   ·exact absurd rfl (I.BK _ (lookup_mem hy))⟩
  refine wt (j:=j) (sc:=fd.scope) hb cx low new rfl rfl rfl rfl ge ic.toInCall.ns ic.toInCall.keep rp (fun x i v e1 e2=>?_) p fun q=>aq (by dsimp only;rw[q];rfl)
  have hi:i<1:=by have:=(List.getElem?_eq_some_iff.mp e2).1;simpa using this
  have hx:=I.slots x i e1 hi
  have ZY:i=0:=by lia
  subst ZY
  simp at hx e2
  subst hx;subst e2
  refine .inr ⟨.inl du,s.heap.objs.size+1,OW,?_⟩
  have hc:=ic.cell gZ _ OW
  have hk:(callEnvC fd s.heap.objs.size a).kindOf gZ=some .cell:=du
  simp only[bindC,hk] at hc
  simpa using hc
end
def fc (prog:Program) (w:World) (base:Heap) (cl:dB->Value) (fr:Bool) (f:Value) (p:Prim):Prop:=
 ∀ (A:Around) (X:Addr->Prop) (s:Shared) (ds:List V) (vs:List Value),cy A s.heap->A.units+100<cLine->ni X s.heap->ay (seen X s.heap) ds vs->Ev prog w base cl A X fr (call f vs []) s (bq p ds)
section
variable {prog:Program}{w:World}{base:Heap}{cl:dB->Value}{A:Around}{X:Addr->Prop}{s:Shared}{D:Fn->List V->R V}{n:Nat}{sc:Scope}{j:List (PySem.Str × Nat)}{K:Frag}
theorem uL {fr:Bool}{f:Value}{p:Prim}{es:List Expr}{ps:fZ}{pos:Pos}{ec:Env}{J:Ρ} (P:fc prog w base cl fr f p) (h:j7 prog w base cl D n sc j es ps) (x:At base n A X none sc j ec J s.heap) {Q E:Value->Shared->Prop}
  (po:Po base cl X fr s ((cS D ps J).bind fun vs=>bq p vs) Q E) (aq:((cS D ps J).bind fun vs=>bq p vs)≠.stuck) :
  aK (model prog w) A (spliced (backTo pos (starEach es ec))) (fun vs s'=>aK (model prog w) A (call f vs []) Q E s') E s:=by
 refine h A X ec J s pos x _ _ ⟨fun ds vs ai tk e k rp=>?_,po.ex.of⟩ (R.aN aq)
 have x':=x.kept k
 exact (P A X { s with heap:=ai,toks:=tk } ds vs x'.cx.held (fV x'.cx.units) x'.low rp).g _ _ (po.step e k) (R.aW aq e)
theorem KZ {fr:Bool}{id:String}{x:PySem.Str}{np pos:Pos}{es:List Expr}{ps:fZ}{p:Prim} (W:Wd K base) (P:fc prog w base cl fr (.builtin id) p) (hk:sc.names.lookup x=some .globalImplicit) (hg:nsIn K mainGlobals x=some none) (hb:bootBuiltins x=some (.builtin id))
  (h:j7 prog w base cl D n sc j es ps) (rY:∃ (t:Env->Sem Value) (r:Env->List (Bool × Sem Value)),∀ env,starEach es env=(false,t env)::r env) (zr:∀ env,(backTo pos (starEach es env)).any (·.1)=false)
  (hn:x≠"__name__") (hd:(x == ("__debug__":PySem.Str))=false):aL prog w base cl D n fr sc j (.Call (.Name x np) es [] pos) (.prim p ps):=fun A X ec J s a Q E po aq=>by
 refine dz (cJ W a.cx.stays a.ge a.scope hk hg hb ?_ hn hd).g
 refine cn (zr ec) ?_
 refine bT rY fun t r gg=>?_
 have hs:=uL (pos:=pos) P h a po aq
 rw[gg] at hs ⊢
 exact c5 hs
theorem K0 {fr:Bool}{T:String}{x:PySem.Str}{np pos:Pos}{es:List Expr}{ps:fZ}{p:Prim} (W:Wd K base) (P:fc prog w base cl fr (.type T) p) (hk:sc.names.lookup x=some .globalImplicit) (hg:nsIn K mainGlobals x=some none) (hb:bootBuiltins x=some (.type T))
  (h:j7 prog w base cl D n sc j es ps) (rY:∃ (t:Env->Sem Value) (r:Env->List (Bool × Sem Value)),∀ env,starEach es env=(false,t env)::r env) (zr:∀ env,(backTo pos (starEach es env)).any (·.1)=false)
  (hn:x≠"__name__") (hd:(x == ("__debug__":PySem.Str))=false):aL prog w base cl D n fr sc j (.Call (.Name x np) es [] pos) (.prim p ps):=fun A X ec J s a Q E po aq=>by
 refine dz (cJ W a.cx.stays a.ge a.scope hk hg hb ?_ hn hd).g
 refine dP (zr ec) ?_
 refine bT rY fun t r gg=>?_
 have hs:=uL (pos:=pos) P h a po aq
 rw[gg] at hs ⊢
 exact c5 hs
def iQ (prog:Program) (w:World) (base:Heap) (cl:dB->Value) (name:PySem.Str) (p:Prim):Prop:=
 ∃ Vf,(PlainAttrs "str"/\Slot "str" name Vf/\typeOf (.builtin Vf)=pure (.type "method_descriptor"))/\∀ (A:Around) (X:Addr->Prop) (s:Shared) (l:List Nat) (v:Value) (ds:List V) (vs:List Value),cy A s.heap->A.units+100<cLine->ni X s.heap->Rep (seen X s.heap) (.str l) v->ay (seen X s.heap) ds vs->Ev prog w base cl A X false (call (.builtin Vf) (v::vs) []) s (bq p (.str l::ds))
def iR (prog:Program) (w:World) (base:Heap) (cl:dB->Value) (name:PySem.Str) (p:Prim):Prop:=
 ∃ Vg,(PlainAttrs "bytes"/\Slot "bytes" name Vg/\typeOf (.builtin Vg)=pure (.type "method_descriptor"))/\∀ (A:Around) (X:Addr->Prop) (s:Shared) (l:List Nat) (v:Value) (ds:List V) (vs:List Value),cy A s.heap->A.units+100<cLine->ni X s.heap->Rep (seen X s.heap) (.bytes l) v->ay (seen X s.heap) ds vs->Ev prog w base cl A X false (call (.builtin Vg) (v::vs) []) s (bq p (.bytes l::ds))
set_option tactic.hygienic true in
theorem OX {f1:Bool}{o:Expr}{name:PySem.Str}{ap pos:Pos}{es:List Expr}{ob:PE}{ps:fZ}{p:Prim}
  (MS:(ps=.nil/\∀ l,bq p [.str l]=.stuck)∨iQ prog w base cl name p) (MB:(ps=.nil/\∀ l,bq p [.bytes l]=.stuck)∨iR prog w base cl name p)
  (ho:aL prog w base cl D n f1 sc j o ob) (h:j7 prog w base cl D n sc j es ps)
  (Kk:∀ env whole,attributeBase o name env whole=whole)
  (RJ:∀ env,((backTo pos (starEach es env)).all (fun x=>!x.1)&&(backToKw pos (keywordEach [] env)).all (fun x=>x.1.isSome)&&decide (es.length+([]:List Keyword).length+(if ([]:List Keyword).isEmpty then 0 else 1)<30))=true)
  (hline:(ap.endLine == pos.line)=true) (zr:∀ env,(backTo pos (starEach es env)).any (·.1)=false)
  (Vh:(es=[]/\ps=.nil)∨∃ (t:Env->Sem Value) (r:Env->List (Bool × Sem Value)),∀ env,starEach es env=(false,t env)::r env) :
  aL prog w base cl D n false sc j (.Call (.Attribute o name ap) es [] pos) (.aG p ob ps):=fun A X ec J s a Q E po aq=>by
 refine gy (Kk ec _) (RJ ec) hline (ho A X ec J s a _ _ ⟨fun d v ai tk e k rp yt=>?_,po.ex.of⟩ (R.aN aq))
 clear yt
 have cL:=po.step (tk:=tk) e k
 have ao:=R.aW aq e
 have hg:=R.mK ao
 rw[R.guard,hg,if_pos rfl] at cL ao
 have a₁:=a.kept k
 have tail:∀ {id:String},(∀ (s:Shared) ds vs,cy A s.heap->ni X s.heap->Rep (seen X s.heap) d v->ay (seen X s.heap) ds vs->Ev prog w base cl A X false (call (.builtin id) (v::vs) []) s (bq p (d::ds)))->
   aK (model prog w) A (callWith pos (.builtin id) [v] (backTo pos (starEach es ec)) []) Q E { s with heap:=ai,toks:=tk }:=fun {id} P=>by
  rcases Vh with ⟨rfl,rfl⟩ | ⟨t,r,gg⟩
  ·skip
   exact (callWith_method0 (P { s with heap:=ai,toks:=tk } [] [] a₁.cx.held a₁.low rp .nil _ _ cL ao)).g
  ·refine cn (zr ec) ?_
   have hs:aK (model prog w) A (spliced (backTo pos (starEach es ec))) (fun vs s'=>aK (model prog w) A (call (.builtin id) (v::vs) []) Q E s') E { s with heap:=ai,toks:=tk }:=by
    refine h A X ec J { s with heap:=ai,toks:=tk } pos a₁ _ _ ⟨fun ds vs aD bD bK k₂ gT=>?_,cL.ex.of⟩ (R.aN ao)
    have a₂:=a₁.kept k₂
    have yQ:=cL.step (tk:=bD) bK k₂
    have cI:=R.aW ao bK
    exact (P { s with heap:=aD,toks:=bD } ds vs a₂.cx.held a₂.low (k₂.rep rp) gT).g _ _ yQ cI
   rw[gg] at hs ⊢
   exact c5 hs
 cases d<;>first | (contradiction;done) | skip
 ·rename_i l
  rcases MS with ⟨rfl,q⟩ | ⟨Vf,hS,PS⟩
  ·skip;exact absurd (q l) ao
  ·refine bT (fy rp) fun y t zz=>aB zz fun av O=>?_;clear zz;subst av
   exact⟨"str",Vf,hS.1,hS.2.1,hS.2.2,typeIs_str _ _ _,(fun O q=>by contradiction),tail fun s ds vs hh hl r rl=>PS A X s l _ ds vs hh (fV a.cx.units) hl r rl⟩
 ·rename_i l
  rcases MB with ⟨rfl,q⟩ | ⟨Vg,hB,PB⟩
  ·skip;exact absurd (q l) ao
  ·refine bT (ef rp) fun y t zz=>aB zz fun av O=>?_;clear zz;subst av
   exact⟨"bytes",Vg,hB.1,hB.2.1,hB.2.2,W.typeIs_bytes _ _ _,(fun O q=>by contradiction),tail fun s ds vs hh hl r rl=>PB A X s l _ ds vs hh (fV a.cx.units) hl r rl⟩
end
section
variable {prog:Program}{w:World}{base:Heap}{cl:dB->Value}
theorem ew {g:Addr->Obj->Prop}{d:V}{vs:List Value} (r:ay g [d] vs):∃ v,vs=[v]/\Rep g d v:=by
 simp only[dr,cZ] at r;refine bT r fun v r zz=>b5 zz fun av h gQ=>?_;clear zz;subst av;subst gQ;exact⟨v,rfl,h⟩
theorem Qt {g:Addr->Obj->Prop}{d e:V}{vs:List Value} (r:ay g [d,e] vs):∃ v u,vs=[v,u]/\Rep g d v/\Rep g e u:=by
 simp only[dr,cZ] at r;obtain⟨v,r,rfl,h,u,r',rfl,h',rfl⟩:=r;exact⟨v,u,rfl,h,h'⟩
theorem K1 {fr:Bool}:fc prog w base cl fr (.builtin "len") .len:=fun A X s ds vs hh hu hl r=>by
 cases ds with
 | nil=>exact .stuck
 | cons d ds=>
 cases d<;>cases ds<;>try exact .stuck
 ·refine Exists.elim (ew r) fun v zz=>aB zz fun av r1=>?_;clear zz;subst av
  refine cH r1 fun y t e h=>?_
  exact Ev.flat (fun O O O=>trivial) fun Q E hQ=>P.len_str (by rw[str_len e];lia) (hQ _ _ (by rw[str_len e];exact bB _ _))
 ·refine Exists.elim (ew r) fun v zz=>aB zz fun av r1=>?_;clear zz;subst av
  refine aT r1 fun y t e h=>?_
  exact Ev.flat (fun O O O=>trivial) fun Q E hQ=>W.len_bytes (by rw[a8 e];lia) (hQ _ _ (by rw[a8 e];exact bB _ _))
 ·refine Exists.elim (ew r) fun v zz=>aB zz fun av r1=>?_;clear zz;subst av
  refine dQ r1 fun a dd sl ws nn hX ha hlen rl=>?_
  have e:=rl.length
  simp at e
  exact Ev.flat (fun O O O=>trivial) fun Q E hQ=>Calls.call_len_list (bF ha) (by lia) (hQ _ _ (by rw[e];exact bB _ _))
 ·refine Exists.elim (ew r) fun v zz=>aB zz fun av r1=>?_;clear zz;subst av
  refine ju r1 fun a dd sl ws nn hX ha hlen rl=>?_
  have e:=rl.length
  simp at e
  exact Ev.flat (fun O O O=>trivial) fun Q E hQ=>PyProof.Rows.len_tuple (fU ha) (by lia) (hQ _ _ (by rw[e];exact bB _ _))
theorem p9 (i:Int):(PySem.Str.ofString (toString i)).cps.toList=bG i:=by rw[PySem.Str.ofString_eq_toList];simp[bG]
set_option tactic.hygienic true in
theorem K2 {fr:Bool}:fc prog w base cl fr (.type "str") .str:=fun A X s ds vs hh hu hl r=>by
 cases ds with
 | nil=>exact .stuck
 | cons d ds=>
 cases d<;>cases ds<;>try exact .stuck
 rename_i i
 show Ev prog w base cl A X fr _ s (R.guard (decide (i.natAbs.log2<1920)) (.ok (.str (bG i))))
 obtain⟨v,rfl,r1⟩:=ew r
 refine aP r1 fun t=>?_
 refine Ev.guard fun hg=>?_
 simp only[decide_eq_true_eq] at hg
 have hz:=int_text_fits hg
 exact Ev.flat (fun O O O=>trivial) fun Q E hQ=>PySem.P.str_of_int hg (hQ _ _ (c6 _ (p9 i) (by
  rw[<- p9 i]
  have:=hz
  rw[show sizeLine=16777216 from rfl] at this
  simpa [PySem.Str.length] using this)))
set_option tactic.hygienic true in
theorem K3 {fr:Bool}:fc prog w base cl fr (.builtin "ord") .ord:=fun A X s ds vs hh hu hl r=>by
 cases ds with
 | nil=>exact .stuck
 | cons d ds=>
 cases d<;>cases ds<;>try exact .stuck
 case str.cons l _ _=>cases l with
  | nil=>exact .stuck
  | cons c m=>cases m<;>exact .stuck
 rename_i l
 cases l with
 | nil=>exact .stuck
 | cons c m=>
 cases m with
 | cons _ _=>exact .stuck
 | nil=>
 refine Exists.elim (ew r) fun v zz=>aB zz fun av r1=>?_;clear zz;subst av
 refine cH r1 fun y t e h=>?_
 obtain rfl:y=⟨#[c]⟩:=by
  obtain⟨cps⟩:=y
  congr 1
  exact Array.toList_inj.mp e
 exact Ev.flat (fun O O O=>trivial) fun Q E hQ=>PySem.P.ord_of_char (hQ _ _ (bB _ _))
theorem K4 {x:Array UInt8}{t:Tok}{A:Around}{s:Shared}{Q E:Value->Shared->Prop} (h:∀ tk,Q (.bool true) { s with toks:=tk }):wpAny (model prog w) A (call (.builtin "isinstance") [.bytes x t,.type "bytes"]) Q E s:=
 call_isinstance (isinstance_true (Tx:="bytes") F.isi_meta_bytes F.sub_bytes_bytes) ⟨rfl,h s.toks⟩
end
section
open PySem.Builtin PySem.Builtin.Str
theorem jE {c x:Nat}{r:List Nat} (h:x≠c) {p:List Nat}{ps:List (List Nat)} (e:ag c r=p::ps):ag c (x::r)=(x::p)::ps:=by rw[aS,if_neg h,e]
theorem yU (c:Nat):∀ (p:List Nat),c∉p->ag c p=[p]:=by
 intro z0
 induction z0 with
 | nil=>
  exact fun O=>rfl
 | cons x r ih=>
  intro h
  have h1:x≠c:=fun q=>h (q ▸ .head _)
  rw[aS,if_neg h1,ih fun q=>h (.tail _ q)]
theorem aV (c:Nat) (q:List Nat):∀ (p:List Nat),c∉p->ag c (p++c::q)=p::ag c q:=by
 intro z0
 induction z0 with
 | nil=>
  intro _
  rw[List.nil_append,aS,if_pos rfl]
 | cons x r ih=>
  intro h
  have h1:x≠c:=fun q=>h (q ▸ .head _)
  rw[List.cons_append,aS,if_neg h1,ih fun q=>h (.tail _ q)]
theorem o9 (c:Nat):∀ (ps:List (List Nat)),ps≠[]->(∀ p∈ps,c∉p)->ag c (a9 [c] ps)=ps
 | [],h,_=>absurd rfl h
 | [p],_,h=>yU c p (h p (.head _))
 | p::q::r,_,h=>by
  rw[aX,List.append_assoc]
  show ag c (p++c::a9 [c] (q::r))=_
  rw[aV c _ p (h p (.head _)),o9 c (q::r) (by simp) fun z hz=>h z (.tail _ hz)]
theorem join_list (sep:PySem.Str):∀ (ps:List PySem.Str),(PySem.Str.join sep ps).cps.toList=a9 sep.cps.toList (ps.map fun p=>p.cps.toList)
 | []=>rfl
 | [p]=>rfl
 | p::q::r=>by
  show ((p++sep)++PySem.Str.join sep (q::r)).cps.toList=_
  rw[lA (lA rfl rfl) (join_list sep (q::r))]
  rfl
theorem split_list (x:PySem.Str) (c:Nat):(Txt.split x ⟨#[c]⟩).map (fun p=>p.cps.toList)=ag c x.cps.toList:=by
 have h1:=StrLaws.join_split x ⟨#[c]⟩
 have h2:=StrLaws.split_free x c
 have h3:Txt.split x ⟨#[c]⟩≠[]:=fun q=>by
  unfold Txt.split at q
  split at q
  ·contradiction
  ·split at q
   ·contradiction
   ·have:=length_partsBetween x (occurrences x ⟨#[c]⟩ 0 x.length (x.length+1)) (⟨#[c]⟩:PySem.Str).length
    rw[q] at this;simp at this
 have h4:=join_list ⟨#[c]⟩ (Txt.split x ⟨#[c]⟩)
 rw[h1] at h4
 rw[h4]
 refine (o9 c _ (by simpa using h3) fun p hp=>?_).symm
 refine Exists.elim (List.mem_map.mp hp) fun z zz=>aB zz fun hz av=>?_;clear zz;subst av
 exact h2 z hz
section
variable {prog:Program}{w:World}{base:Heap}{cl:dB->Value}{A:Around}{X:Addr->Prop}{s:Shared}
theorem gD {ds:List V}{vs:Array Value}{fr:Bool}{Q E:Value->Shared->Prop} (p:Po base cl X fr s (.ok (.list ds)) Q E) (hl:ds.length<=16777216) (hX:ni X s.heap) (r:ay (seen X s.heap) ds vs.toList) (tk:Nat) :
  Q (.ref s.heap.objs.size) { s with heap:=s.heap.push { cls:=.type "list",data:=.seq vs },toks:=tk }:=by
 have k:=Kept.push base s.heap { cls:=.type "list",data:=.seq vs }
 have e:(s.heap.push { cls:=.type "list",data:=.seq vs }).get? s.heap.objs.size=some { cls:=.type "list",data:=.seq vs }:=Heap.get?_push_size _ rfl
 have own:b0 (s.heap.push { cls:=.type "list",data:=.seq vs }) X s.heap.objs.size (.list ds):=⟨_,vs,0,e,rfl,rfl,rfl,hl,k.j5 (r.fresh (bS _))⟩
 exact p.ok _ _ _ tk rfl k (own.rep (hX.none (bS _))) fun O=>⟨_,rfl,bS _,own⟩
theorem HB {g:Addr->Obj->Prop}:∀ (l:List (PySem.Str × Tok)),(∀ p∈l,p.1.length<=16777216)->ay g ((l.map fun p=>p.1.cps.toList).map V.str) (strValues l):=by
 intro z0
 induction z0 with
 | nil=>exact fun O=>.nil
 | cons p r ih=>exact fun h=>.cons (by exact⟨p.1,p.2,rfl,rfl,by have:=h p (.head _);simpa [PySem.Str.length] using this⟩) (ih fun q hq=>h q (.tail _ hq))
theorem BL {x:PySem.Str}{c:Nat}{t u:Tok}{Q:Value->Shared->Prop}{E:Value->Shared->Prop} (j4:x.length<=lim)
  (h:∀ (l:List (PySem.Str × Tok)) tk,l.map (·.1)=Txt.split x ⟨#[c]⟩->Q (.ref s.heap.objs.size) { s with heap:=s.heap.push { cls:=.type "list",data:=.seq (strValues l).toArray },toks:=tk }):wpAny (model prog w) A (call (.builtin "str.split") [.str x t,.str ⟨#[c]⟩ u]) Q E s:=by
 have j3:lim+1<=sizeLine:=by decide
 have hy:((⟨#[c]⟩:PySem.Str).length == 0)=false:=rfl
 have Xe:x.length<=sizeLine:=by lia
 cases h1:(decide (x.length<(⟨#[c]⟩:PySem.Str).length)||decide (strKind x<strKind ⟨#[c]⟩))
 ·cases hf:(occurrences x ⟨#[c]⟩ 0 x.length (x.length+1)).isEmpty
  ·have K5:(partsBetween x (occurrences x ⟨#[c]⟩ 0 x.length (x.length+1)) (⟨#[c]⟩:PySem.Str).length).length<=sizeLine:=by
    have h2:=split_weight x ⟨#[c]⟩ (Nat.le_refl 1)
    unfold Txt.split at h2
    rw[if_neg (by rw[h1];decide),if_neg (by rw[hf];decide)] at h2
    lia
   refine call_meets F.slot_str_split (typeIs_str _ _ _) F.entry_str_split (F.args_str_split_2 _ _) (meets_str_split_sep x ⟨#[c]⟩ t u h1 hy hf Xe K5) ?_
   show wants Q E _ { s with toks:=_,heap:=s.heap.push { cls:=.type "list",data:=.seq (strsFrom s.toks (partsBetween x (occurrences x ⟨#[c]⟩ 0 x.length (x.length+1)) (⟨#[c]⟩:PySem.Str).length)).toArray } }
   rw[strsFrom_eq]
   exact h (numbered s.toks _) _ ((numbered_texts _ _).trans ((if_neg (ne_true_of_eq_false h1)).trans (if_neg (ne_true_of_eq_false hf))).symm)
  ·exact call_meets F.slot_str_split (typeIs_str _ _ _) F.entry_str_split (F.args_str_split_2 _ _) (meets_str_split_not_found x ⟨#[c]⟩ t u h1 hy hf) (h [(x,t)] _ ((if_neg (ne_true_of_eq_false h1)).trans (if_pos hf)).symm)
 ·exact call_meets F.slot_str_split (typeIs_str _ _ _) F.entry_str_split (F.args_str_split_2 _ _) (meets_str_split_cannot_occur x ⟨#[c]⟩ t u h1) (h [(x,t)] _ (if_pos h1).symm)
theorem one_sign {y:PySem.Str}{c:Nat} (e:y.cps.toList=[c]):y=⟨#[c]⟩:=by
 obtain⟨cps⟩:=y
 congr 1
 exact Array.toList_inj.mp e
set_option tactic.hygienic true in
theorem HC (hX:ni X s.heap) {l:List Nat}{v:Value}{ds:List V}{vs:List Value} (r:Rep (seen X s.heap) (.str l) v) (rs:ay (seen X s.heap) ds vs):Ev prog w base cl A X false (call (.builtin "str.split") (v::vs) []) s (bq .split (.str l::ds)):=by
 cases ds with
 | nil=>exact .stuck
 | cons d rest=>
  cases d<;>cases rest<;>try exact .stuck
  case str.cons m _ _=>cases m with
   | nil=>exact .stuck
   | cons c m=>cases m<;>exact .stuck
  rename_i m
  cases m with
  | nil=>exact .stuck
  | cons c m=>
   cases m with
   | cons _ _=>exact .stuck
   | nil=>
    refine Exists.elim (ew rs) fun u zz=>aB zz fun av r1=>?_;clear zz;subst av
    refine cH r fun y t e hl=>?_
    refine cH r1 fun z t2 e2 O=>?_
    obtain rfl:=one_sign e2
    show Ev prog w base cl A X false _ s (R.guard (decide (l.length<=lim)) (.ok (.list ((ag c l).map V.str))))
    refine Ev.guard fun hg=>?_
    simp only[decide_eq_true_eq] at hg
    have Sb:=str_len e
    intro Q E p _
    refine BL (by lia) fun ps tk OY=>?_
    have Qu:(ps.map fun p=>p.1.cps.toList)=ag c l:=by
     rw[<- e,<- split_list,<- OY,List.map_map];rfl
    have Sd:∀ p∈ps,p.1.length<=16777216:=fun p hp=>by
     have:=part_short (x:=y) (y:=⟨#[c]⟩) (a:=p.1) (by rw[<- OY];exact List.mem_map_of_mem hp)
     lia
    have hR:ay (seen X s.heap) ((ag c l).map V.str) (strValues ps):=by rw[<- Qu];exact HB ps Sd
    have Jr:(ag c l).length<=16777216:=by
     have:=split_weight y ⟨#[c]⟩ (Nat.le_refl 1)
     rw[<- OY] at this
     rw[<- Qu,List.length_map]
     have j3:lim+1<=16777216:=by decide
     simp only[List.length_map] at this
     lia
    exact gD p (by simpa using Jr) hX (by simpa using hR) tk
theorem OZ {g:Addr->Obj->Prop}:∀ {xs:List V}{ys:List (List Nat)}{vs:List Value},strs? xs=some ys->ay g xs vs->∃ l:List (PySem.Str × Tok),vs=strValues l/\(l.map fun p=>p.1.cps.toList)=ys:=by
 intro z0
 induction z0 with
 | nil=>
  intro ys vs h r
  skip;subst r;injection h with h;subst h;exact⟨[],rfl,rfl⟩
 | cons d xs ih=>
  intro ys vs h r
  refine bT r fun v r' zz=>b5 zz fun av r1 r2=>?_;clear zz;try clear r;subst av
  cases d<;>first | (contradiction;done) | skip
  rw[w5] at h
  cases q:strs? xs with
  | none=>rw[q] at h;contradiction
  | some zs=>
   rw[q] at h;injection h with h;subst h
   refine Exists.elim (ih q r2) fun l zz=>aB zz fun av gQ=>?_;clear zz;subst av;subst gQ
   refine cH r1 fun y t gQ O=>?_;subst gQ
   exact⟨(y,t)::l,rfl,rfl⟩
theorem K6 (sep:PySem.Str):∀ (l:List PySem.Str) (k:Nat),l.foldl (·+·.length+sep.length) k=k+bf (l.map fun p=>p.cps.toList)+sep.length*l.length:=by
 intro z0
 induction z0 with
 | nil=>
  intro k
  simp[cM,bj]
 | cons p r ih=>
  intro k
  rw[List.foldl_cons,ih]
  simp only[List.map_cons,cM,bj,List.length_cons,Nat.mul_succ]
  have:p.length=p.cps.toList.length:=by simp[PySem.Str.length]
  lia
theorem og (sep:List Nat):∀ (l:List (List Nat)),(a9 sep l).length<=bf l+sep.length*l.length
 | []=>by simp[de,cg,aX]
 | [p]=>by simp[de,cg,aX,cM,bj]
 | p::q::r=>by
  have:=og sep (q::r)
  simp only[de,cg,aX,List.length_append,cM,bj,List.length_cons,Nat.mul_succ] at this ⊢
  lia
set_option tactic.hygienic true in
theorem K7 (hX:ni X s.heap) {l:List Nat}{v:Value}{ds:List V}{vs:List Value} (r:Rep (seen X s.heap) (.str l) v) (rs:ay (seen X s.heap) ds vs):Ev prog w base cl A X false (call (.builtin "str.join") (v::vs) []) s (bq .join (.str l::ds)):=by
 cases ds with
 | nil=>exact .stuck
 | cons d rest=>
  cases d<;>cases rest<;>try exact .stuck
  rename_i xs
  refine Exists.elim (ew rs) fun u zz=>aB zz fun av r1=>?_;clear zz;subst av
  refine cH r fun y t e hl=>?_
  refine dQ r1 fun a dd sl ws nn O ha hlen rl=>?_
  show Ev prog w base cl A X false _ s (match strs? xs with | some ys=>R.guard (decide (bf ys+l.length*ys.length<=lim)) (.ok (.str (a9 l ys))) | none=>.stuck)
  cases q:strs? xs with
  | none=>exact .stuck
  | some ys=>
   refine Ev.guard fun hg=>?_
   simp only[decide_eq_true_eq] at hg
   refine Exists.elim (OZ q rl) fun ps zz=>aB zz fun OY Qv=>?_
   have Sb:=str_len e
   have j3:lim<=16777216:=by decide
   have ZZ:ws=(strValues ps).toArray:=by rw[<- OY]
   subst ZZ
   refine Ev.flat (fun O O O=>trivial) fun Q E hQ=>SC.join (bF ha) rfl ?_ fun t' k=>hQ _ _ (c6 _ ?_ ?_)
   ·unfold JoinOk
    rw[Bool.not_eq_true']
    unfold tooLong
    rw[List.foldl_toArray,K6]
    rw[List.map_map]
    have h1:(ps.map ((fun p:PySem.Str=>p.cps.toList)∘fun x=>x.1))=ys:=Qv
    rw[h1]
    have h2:(ps.map (·.1)).length=ys.length:=by rw[<- Qv];simp
    rw[h2,Sb]
    have:lim<=sizeLine:=by decide
    simp only[decide_eq_false_iff_not,gt_iff_lt,Nat.not_lt]
    lia
   ·show (glued y (ps.map (·.1))).cps.toList=_
    rw[StrLaws.glued_eq_join,join_list,List.map_map,e,<- Qv];rfl
   ·have:=og l ys;lia
set_option tactic.hygienic true in
theorem BM {l:List Nat}{v:Value}{ds:List V}{vs:List Value} (r:Rep (seen X s.heap) (.str l) v) (rs:ay (seen X s.heap) ds vs):Ev prog w base cl A X false (call (.builtin "str.lstrip") (v::vs) []) s (bq .lstrip (.str l::ds)):=by
 cases ds with
 | nil=>exact .stuck
 | cons d rest=>
  cases d<;>cases rest<;>try exact .stuck
  case str.cons m _ _=>cases m with
   | nil=>exact .stuck
   | cons c m=>cases m<;>exact .stuck
  rename_i m
  cases m with
  | nil=>exact .stuck
  | cons c m=>
   cases m with
   | cons _ _=>exact .stuck
   | nil=>
    refine Exists.elim (ew rs) fun u zz=>aB zz fun av r1=>?_;clear zz;subst av
    refine cH r fun y t e hl=>?_
    refine cH r1 fun z t2 e2 O=>?_
    obtain rfl:=one_sign e2
    have Sb:=str_len e
    show Ev prog w base cl A X false _ s (.ok (.str (l.dropWhile (· == c))))
    have hw:∀ l:List Nat,l.drop (l.takeWhile (· == c)).length=l.dropWhile (· == c):=fun l=>by
     induction l with
     | nil=>rfl
     | cons x r ih=>
      by_cases h:(x == c)=true
      ·simp[List.takeWhile_cons,List.dropWhile_cons,h,ih]
      ·simp[List.takeWhile_cons,List.dropWhile_cons,h]
    refine Ev.flat (fun O O O=>trivial) fun Q E hQ=>SC.lstripChars (fun t' k=>hQ _ _ (c6 _ ?_ ?_)) (by have:=bu;lia)
    ·show (Txt.stripBy (#[c]:Array Nat).contains true false y).cps.toList=_
     rw[PyProof.Rows.stripBy_eq]
     have hc:(#[c]:Array Nat).contains=fun x=>x == c:=by funext x;simp[Array.contains,Bool.beq_eq_decide_eq,eq_comm]
     have V3:stripLo (#[c]:Array Nat).contains true y=(l.takeWhile (· == c)).length:=by
      unfold stripLo;rw[if_pos rfl,e,hc]
     rw[V3]
     unfold strSub stripHi
     rw[if_neg (by decide)]
     show (y.cps.extract _ _).toList=_
     rw[Array.toList_extract,List.extract_eq_drop_take,e,hw]
     rw[List.take_of_length_le]
     have:=hw l
     rw[<- this,List.length_drop]
     lia
    ·have h1:=hw l
     have h2:(l.dropWhile (· == c)).length<=l.length:=by rw[<- h1,List.length_drop];lia
     lia
end
theorem pd (c x:Nat) (r:List Nat) (n:Nat):findAt [c] (x::r) n=if x=c then (n:Int) else findAt [c] r (n+1):=by
 rw[DK]
 have:List.isPrefixOf [c] (x::r)=decide (x=c):=by
  simp[List.isPrefixOf,Bool.beq_eq_decide_eq,eq_comm]
 rw[this]
 by_cases h:x=c<;>simp[h]
theorem K8 (x y:PySem.Str) (hi:Nat):∀ (l:List Nat) (st:Array Nat × Nat),1<=st.fst.size->(forIn l st (StrLaws.occBody x y hi 1)).run.fst=st.fst:=by
 intro z0
 induction z0 with
 | nil=>
  exact fun st O=>rfl
 | cons a l ih=>
  intro st h
  rw[List.forIn_cons]
  unfold StrLaws.occBody
  rw[if_neg (by omega)]
  exact ih _ h
theorem occ_first (x:PySem.Str) (c:Nat):∀ (k i free:Nat),i+k=x.length+1->free<=i->
  (match (forIn (List.range' i k) ((#[]:Array Nat),free) (StrLaws.occBody x ⟨#[c]⟩ x.length 1)).run.fst.toList with | aaH::_=>(aaH:Int) | []=>-1)=findAt [c] (x.cps.toList.drop i) i:=by
 intro z0
 induction z0 with
 | zero=>
  intro i free h _
  rw[List.drop_eq_nil_of_le (by simp[PySem.Str.length] at h;simp;lia)]
  rfl
 | succ k ih=>
  intro i free h hf
  rw[List.range'_succ,List.forIn_cons]
  have A7:=StrLaws.subAt_one x c i
  by_cases hi:i<x.length
  ·have S4:i<x.cps.toList.length:=by simpa [PySem.Str.length] using hi
   rw[List.drop_eq_getElem_cons S4,pd]
   unfold StrLaws.occBody
   by_cases hx:x.cps.toList[i]=c
   ·have h1:x.cps.toList[i]?=some c:=by rw[List.getElem?_eq_getElem S4,hx]
    have h2:=A7.mpr h1
    rw[if_pos hx,if_pos ⟨⟨⟨by simp,hf⟩,h2.1⟩,h2.2⟩]
    have:=K8 x ⟨#[c]⟩ x.length (List.range' (i+1) k) (#[i],i+(⟨#[c]⟩:PySem.Str).length) (by simp)
    show (match (forIn (List.range' (i+1) k) (#[i],i+(⟨#[c]⟩:PySem.Str).length) (StrLaws.occBody x ⟨#[c]⟩ x.length 1)).run.fst.toList with | aaH::_=>(aaH:Int) | []=>-1)=_
    rw[this]
   ·have h1:¬ x.cps.toList[i]?=some c:=by rw[List.getElem?_eq_getElem S4];simpa using hx
    have h2:¬ (i+(⟨#[c]⟩:PySem.Str).length<=x.length/\subAt x ⟨#[c]⟩ i=true):=fun q=>h1 (A7.mp q)
    rw[if_neg hx,if_neg fun q=>h2 ⟨q.1.2,q.2⟩]
    exact ih (i+1) free (by lia) (by lia)
  ·rw[List.drop_eq_nil_of_le (by simp[PySem.Str.length] at hi;simpa using hi)]
   unfold StrLaws.occBody
   have hl:(⟨#[c]⟩:PySem.Str).length=1:=rfl
   rw[if_neg (by rw[hl];lia)]
   have hk:k=0:=by lia
   subst hk
   rfl
theorem BO (x:PySem.Str) (c:Nat):(match occurrences x ⟨#[c]⟩ 0 x.length 1 with | i::_=>(i:Int) | []=>-1)=findAt [c] x.cps.toList 0:=by
 rw[StrLaws.occ_eq]
 exact occ_first x c (x.length+1) 0 0 (by lia) (by lia)
section
variable {prog:Program}{w:World}{base:Heap}{cl:dB->Value}{A:Around}{X:Addr->Prop}{s:Shared}
set_option tactic.hygienic true in
theorem K9 {l:List Nat}{v:Value}{ds:List V}{vs:List Value} (r:Rep (seen X s.heap) (.str l) v) (rs:ay (seen X s.heap) ds vs):Ev prog w base cl A X false (call (.builtin "str.find") (v::vs) []) s (bq .find (.str l::ds)):=by
 cases ds with
 | nil=>exact .stuck
 | cons d rest=>
  cases d<;>cases rest<;>try exact .stuck
  case str.cons m _ _=>cases m with
   | nil=>exact .stuck
   | cons c m=>cases m<;>exact .stuck
  rename_i m
  cases m with
  | nil=>exact .stuck
  | cons c m=>
   cases m with
   | cons _ _=>exact .stuck
   | nil=>
    refine Exists.elim (ew rs) fun u zz=>aB zz fun av r1=>?_;clear zz;subst av
    refine cH r fun y t e hl=>?_
    refine cH r1 fun z t2 e2 O=>?_
    obtain rfl:=one_sign e2
    show Ev prog w base cl A X false _ s (.ok (.int (findAt [c] l 0)))
    refine Ev.flat (fun O O O=>trivial) fun Q E hQ=>call_gives F.slot_str_find (typeIs_str _ _ _) F.entry_str_find (F.args_str_find_2 _ _) (gives_str_find y ⟨#[c]⟩ t t2) ?_
    have:=BO y c
    rw[e] at this
    have goal:(Made.int (findAt [c] l 0)).post Q s:=hQ _ _ (bB _ _)
    rw[<- this] at goal
    exact goal
end
end
section
open PySem.Builtin
namespace FY
theorem dS:Slot "bytes" "isdigit" "bytes.isdigit":=
 .of (owner:="bytes") (n:="isdigit") (by rw[typeLookup_type,builtinLookup_eq_fast];kernel_rfl) (by decide +kernel) (by decide +kernel) (by decide +kernel)
  (by first | exact .inl (by decide +kernel) | exact .inr (by decide +kernel)) (by rw[isSubtype_type];kernel_rfl)
theorem j9:entryFor table "bytes.isdigit"=some Builtin.«bytes.isdigit»:=entryFor_of_tree (by kernel_rfl)
theorem jF (a:Value):argsOk "bytes.isdigit" ⟨[a],[]⟩:=by
 unfold argsOk;rw[signature?_of (id:="bytes.isdigit") (n:=['t','i','g','i','d','s','i']) (o:=['s','e','t','y','b']) (by kernel_rfl) W.FB.owner_bytes];kernel_rfl
theorem eM:Slot "bytes" "lower" "bytes.lower":=
 .of (owner:="bytes") (n:="lower") (by rw[typeLookup_type,builtinLookup_eq_fast];kernel_rfl) (by decide +kernel) (by decide +kernel) (by decide +kernel)
  (by first | exact .inl (by decide +kernel) | exact .inr (by decide +kernel)) (by rw[isSubtype_type];kernel_rfl)
theorem mS:entryFor table "bytes.lower"=some Builtin.«bytes.lower»:=entryFor_of_tree (by kernel_rfl)
theorem lG (a:Value):argsOk "bytes.lower" ⟨[a],[]⟩:=by
 unfold argsOk;rw[signature?_of (id:="bytes.lower") (n:=['r','e','w','o','l']) (o:=['s','e','t','y','b']) (by kernel_rfl) W.FB.owner_bytes];kernel_rfl
theorem eN:Slot "bytes" "split" "bytes.split":=
 .of (owner:="bytes") (n:="split") (by rw[typeLookup_type,builtinLookup_eq_fast];kernel_rfl) (by decide +kernel) (by decide +kernel) (by decide +kernel)
  (by first | exact .inl (by decide +kernel) | exact .inr (by decide +kernel)) (by rw[isSubtype_type];kernel_rfl)
theorem mU:entryFor table "bytes.split"=some Builtin.«bytes.split»:=entryFor_of_tree (by kernel_rfl)
theorem lH (a b:Value):argsOk "bytes.split" ⟨[a,b],[]⟩:=by
 unfold argsOk;rw[signature?_of (id:="bytes.split") (n:=['t','i','l','p','s']) (o:=['s','e','t','y','b']) (by kernel_rfl) W.FB.owner_bytes];kernel_rfl
theorem fe:Slot "bytes" "find" "bytes.find":=
 .of (owner:="bytes") (n:="find") (by rw[typeLookup_type,builtinLookup_eq_fast];kernel_rfl) (by decide +kernel) (by decide +kernel) (by decide +kernel)
  (by first | exact .inl (by decide +kernel) | exact .inr (by decide +kernel)) (by rw[isSubtype_type];kernel_rfl)
theorem oh:entryFor table "bytes.find"=some Builtin.«bytes.find»:=entryFor_of_tree (by kernel_rfl)
theorem mV (a b:Value):argsOk "bytes.find" ⟨[a,b],[]⟩:=by
 unfold argsOk;rw[signature?_of (id:="bytes.find") (n:=['d','n','i','f']) (o:=['s','e','t','y','b']) (by kernel_rfl) W.FB.owner_bytes];kernel_rfl
theorem eO:Slot "bytes" "rfind" "bytes.rfind":=
 .of (owner:="bytes") (n:="rfind") (by rw[typeLookup_type,builtinLookup_eq_fast];kernel_rfl) (by decide +kernel) (by decide +kernel) (by decide +kernel)
  (by first | exact .inl (by decide +kernel) | exact .inr (by decide +kernel)) (by rw[isSubtype_type];kernel_rfl)
theorem mW:entryFor table "bytes.rfind"=some Builtin.«bytes.rfind»:=entryFor_of_tree (by kernel_rfl)
theorem lI (a b:Value):argsOk "bytes.rfind" ⟨[a,b],[]⟩:=by
 unfold argsOk;rw[signature?_of (id:="bytes.rfind") (n:=['d','n','i','f','r']) (o:=['s','e','t','y','b']) (by kernel_rfl) W.FB.owner_bytes];kernel_rfl
theorem fh:Slot "bytes" "join" "bytes.join":=
 .of (owner:="bytes") (n:="join") (by rw[typeLookup_type,builtinLookup_eq_fast];kernel_rfl) (by decide +kernel) (by decide +kernel) (by decide +kernel)
  (by first | exact .inl (by decide +kernel) | exact .inr (by decide +kernel)) (by rw[isSubtype_type];kernel_rfl)
theorem oi:entryFor table "bytes.join"=some Builtin.«bytes.join»:=entryFor_of_tree (by kernel_rfl)
theorem mX (a b:Value):argsOk "bytes.join" ⟨[a,b],[]⟩:=by
 unfold argsOk;rw[signature?_of (id:="bytes.join") (n:=['n','i','o','j']) (o:=['s','e','t','y','b']) (by kernel_rfl) W.FB.owner_bytes];kernel_rfl
end FY
section
variable {prog:Program}{w:World}{base:Heap}{cl:dB->Value}{A:Around}{X:Addr->Prop}{s:Shared}{D:Fn->List V->R V}{n:Nat}{sc:Scope}{j:List (PySem.Str × Nat)}
theorem aL.bytes {fr:Bool}{x:List UInt8}{l:List Nat}{k:Nat}{pos:Pos} (e:x.map UInt8.toNat=l:=by rfl) (hl:l.length<=16777216:=by decide):aL prog w base cl D n fr sc j (.Constant (.bytes x) k pos) (.const (.bytes l)):=
 cst (fun O O O O O O hQ=>W.Constant_bytes (hQ _ _ (dF _ (by simpa using e) hl))) fun O O O O=>trivial
theorem HD (x:List UInt8):(Bytes.allOf Bytes.isDigit x)=(!(x.map UInt8.toNat).isEmpty&&(x.map UInt8.toNat).all aM):=by
 rw[List.all_map]
 have:(aM∘UInt8.toNat)=Bytes.isDigit:=by
  funext c
  simp only[Function.comp,aM,Bytes.isDigit,UInt8.le_iff_toNat_le]
  rfl
 rw[this]
 cases x<;>rfl
theorem ti {l:List Nat}{v:Value}{ds:List V}{vs:List Value} (r:Rep (seen X s.heap) (.bytes l) v) (rs:ay (seen X s.heap) ds vs):Ev prog w base cl A X false (call (.builtin "bytes.isdigit") (v::vs) []) s (bq .isdigit (.bytes l::ds)):=by
 cases ds with
 | cons d rest=>exact .stuck
 | nil=>
  skip;subst rs
  refine aT r fun y t e hl=>?_
  show Ev prog w base cl A X false _ s (.ok (.bool (!l.isEmpty&&l.all aM)))
  have g:Gives («bytes.isdigit» ⟨[.bytes y t],[]⟩) (.val (.bool (Bytes.allOf Bytes.isDigit y.toList))):=.of_eq rfl
  refine Ev.flat (fun O O O=>trivial) fun Q E hQ=>call_gives FY.dS (W.typeIs_bytes s y t) FY.j9 (FY.jF _) g ?_
  rw[HD,e]
  exact hQ _ _ (et _)
theorem BP (c:UInt8):(Bytes.toLower c).toNat=kO c.toNat:=by
 unfold Bytes.toLower Bytes.isUpper kO
 have h:c.toNat<256:=c.toNat_lt
 by_cases q:65<=c.toNat/\c.toNat<=90
 ·rw[if_pos q,if_pos (by simp only[Bool.and_eq_true,decide_eq_true_eq,UInt8.le_iff_toNat_le];exact q)]
  rw[UInt8.toNat_add]
  show (c.toNat+32) % 256=_
  lia
 ·rw[if_neg q,if_neg (by simp only[Bool.and_eq_true,decide_eq_true_eq,UInt8.le_iff_toNat_le];exact q)]
theorem yV {l:List Nat}{v:Value}{ds:List V}{vs:List Value} (r:Rep (seen X s.heap) (.bytes l) v) (rs:ay (seen X s.heap) ds vs):Ev prog w base cl A X false (call (.builtin "bytes.lower") (v::vs) []) s (bq .lower (.bytes l::ds)):=by
 cases ds with
 | cons d rest=>exact .stuck
 | nil=>
  skip;subst rs
  refine aT r fun y t e hl=>?_
  show Ev prog w base cl A X false _ s (.ok (.bytes (l.map kO)))
  have hlen:=a8 e
  refine Ev.flat (fun O O O=>trivial) fun Q E hQ=>wpAny_call_entry FY.eM (W.typeIs_bytes s y t) FY.mS ?_ (FY.lG _)
  show wpAny _ _ (mkBytes ((y.toList.map Bytes.toLower).toArray) >>= fun r=>ret r) _ _ s
  refine wpAny_bind (wpAny_mkBytes ?_ ?_)
  ·refine wpAny_pure ⟨_,rfl,hQ _ _ (dF _ ?_ (by simpa using hl))⟩
   simp only[List.map_map]
   rw[<- e,List.map_map]
   exact List.map_congr_left fun c O=>BP c
  ·have:=bu;simp;lia
end
theorem gp (n:Nat):Bytes.window n none none=(0,(n:Int)):=by
 unfold Bytes.window
 simp only[Option.getD_none]
 rw[if_neg (by lia),if_neg (by lia)]
 simp
noncomputable def fits (b sub:Array UInt8) (atEnd:Bool):Bool:=
 if (b.size:Int) - 0<(sub.size:Int) then false
 else if atEnd then b.extract ((b.size:Int).toNat - sub.size) (b.size:Int).toNat == sub
 else b.extract (0:Int).toNat ((0:Int).toNat+sub.size) == sub
theorem wu (b p:Array UInt8) (t u:Tok):Meets («bytes.startswith» ⟨[.bytes b t,.bytes p u],[]⟩) (fun O R s=>R (.ok (.ret (.bool (fits b p false)))) s):=
 .of_wp fun prog w A R s h=>by
  unfold «bytes.startswith» Bytes.tailMatchM
  refine wpAny_bind (wpAny_of_eq (a:=(Value.bytes b t,[Value.bytes p u])) rfl ?_)
  refine wpAny_bind (wpAny_of_eq (a:=none) rfl ?_)
  refine wpAny_bind (wpAny_of_eq (a:=none) rfl ?_)
  refine wpAny_bind (wpAny_of_eq (a:=b) rfl ?_)
  rw[gp]
  refine wpAny_bind (wpAny_isInstance (T:="bytes") (b:=false) (typeIs_bytes s p u) F.sub_bytes_tuple ?_)
  rw[if_neg (by decide)]
  refine wpAny_bind (wpAny_of_eq KBy.buffer_eq ?_)
  exact wpAny_pure ⟨_,rfl,h⟩
theorem BQ (b p:Array UInt8) (t u:Tok):Meets («bytes.endswith» ⟨[.bytes b t,.bytes p u],[]⟩) (fun O R s=>R (.ok (.ret (.bool (fits b p true)))) s):=
 .of_wp fun prog w A R s h=>by
  unfold «bytes.endswith» Bytes.tailMatchM
  refine wpAny_bind (wpAny_of_eq (a:=(Value.bytes b t,[Value.bytes p u])) rfl ?_)
  refine wpAny_bind (wpAny_of_eq (a:=none) rfl ?_)
  refine wpAny_bind (wpAny_of_eq (a:=none) rfl ?_)
  refine wpAny_bind (wpAny_of_eq (a:=b) rfl ?_)
  rw[gp]
  refine wpAny_bind (wpAny_isInstance (T:="bytes") (b:=false) (typeIs_bytes s p u) F.sub_bytes_tuple ?_)
  rw[if_neg (by decide)]
  refine wpAny_bind (wpAny_of_eq KBy.buffer_eq ?_)
  exact wpAny_pure ⟨_,rfl,h⟩
theorem pg (a b:List UInt8):(a == b)=decide (a.map UInt8.toNat=b.map UInt8.toNat):=by
 rw[gm]
 congr 1
 apply propext
 constructor
 ·intro h;rw[h]
 ·intro h
  exact (List.map_inj_right fun x y e=>UInt8.toNat_inj.mp e).mp h
theorem Du (a b:Array UInt8):(a == b)=(a.toList == b.toList):=by
 rw[gm,gm]
 congr 1
 exact propext ⟨fun h=>by rw[h],fun h=>Array.toList_inj.mp h⟩
theorem yW {b p:Array UInt8}{l m:List Nat} (e:b.toList.map UInt8.toNat=l) (f:p.toList.map UInt8.toNat=m):fits b p false=m.isPrefixOf l:=by
 have h1:=a8 e
 have h2:=a8 f
 unfold fits
 rw[Bool.eq_iff_iff,List.isPrefixOf_iff_prefix,List.prefix_iff_eq_take]
 by_cases q:(b.size:Int) - 0<p.size
 ·rw[if_pos q]
  constructor
  ·intro z;contradiction
  ·intro z
   have:=congrArg List.length z
   simp at this;lia
 ·rw[if_neg q,if_neg (by decide),Du,pg,decide_eq_true_eq]
  have:(b.extract (0:Int).toNat ((0:Int).toNat+p.size)).toList.map UInt8.toNat=l.take m.length:=by
   rw[Array.toList_extract,List.extract_eq_drop_take,<- e,<- h2]
   simp[List.map_take]
  rw[this,f]
  exact eq_comm
theorem HF {b p:Array UInt8}{l m:List Nat} (e:b.toList.map UInt8.toNat=l) (f:p.toList.map UInt8.toNat=m):fits b p true=m.isSuffixOf l:=by
 have h1:=a8 e
 have h2:=a8 f
 unfold fits
 rw[Bool.eq_iff_iff,List.isSuffixOf_iff_suffix,List.suffix_iff_eq_drop]
 by_cases q:(b.size:Int) - 0<p.size
 ·rw[if_pos q]
  constructor
  ·intro z;contradiction
  ·intro z
   have:=congrArg List.length z
   simp at this;omega
 ·rw[if_neg q,if_pos rfl,Du,pg,decide_eq_true_eq]
  have:(b.extract ((b.size:Int).toNat - p.size) (b.size:Int).toNat).toList.map UInt8.toNat=l.drop (l.length - m.length):=by
   rw[Array.toList_extract,List.extract_eq_drop_take,<- e,<- h2]
   simp only[Int.toNat_natCast,List.length_map,Array.length_toList]
   rw[List.take_of_length_le (by simp),List.map_drop]
  rw[this,f]
  exact eq_comm
theorem wx (c:Nat):∀ (l:List Nat) (k:Nat),findAt [c] l k=match (List.range l.length).find? (fun i=>decide (l[i]?=some c)) with | some i=>((i+k:Nat):Int) | none=>-1:=by
 intro z0
 induction z0 with
 | nil=>
  exact fun k=>rfl
 | cons x r ih=>
  intro k
  rw[pd,List.length_cons,List.range_succ_eq_map,List.find?_cons]
  by_cases h:x=c
  ·simp[h]
  ·have:decide ((x::r)[0]?=some c)=false:=by simpa using h
   rw[if_neg h,this,List.find?_map,ih (k+1)]
   have e:((fun i=>decide ((x::r)[i]?=some c))∘Nat.succ)=fun i=>decide (r[i]?=some c):=by funext i;simp
   rw[e]
   cases (List.range r.length).find? (fun i=>decide (r[i]?=some c)) with
   | none=>rfl
   | some i=>show (((i:Nat)+(k+1):Nat):Int)=((i.succ+k:Nat):Int);congr 1;lia
theorem wy (c:Nat):∀ (l:List Nat) (k:Nat) (best:Int),ia c l k best=match (List.range l.length).reverse.find? (fun i=>decide (l[i]?=some c)) with | some i=>((i+k:Nat):Int) | none=>best:=by
 intro z0
 induction z0 with
 | nil=>
  exact fun k best=>rfl
 | cons x r ih=>
  intro k best
  rw[tF,List.length_cons,List.range_succ_eq_map,List.reverse_cons,<- List.map_reverse,List.find?_append,List.find?_map,ih (k+1)]
  have e:((fun i=>decide ((x::r)[i]?=some c))∘Nat.succ)=fun i=>decide (r[i]?=some c):=by funext i;simp
  rw[e]
  cases (List.range r.length).reverse.find? (fun i=>decide (r[i]?=some c)) with
  | none=>
   by_cases h:x=c
   ·simp[h]
   ·simp[h]
  | some i=>show (((i:Nat)+(k+1):Nat):Int)=((i.succ+k:Nat):Int);congr 1;lia
theorem oj (b:Array UInt8) (k:UInt8) (l:List Nat) (e:b.toList.map UInt8.toNat=l):(fun i=>b.extract i (i+1) == #[k])=fun i=>decide (l[i]?=some k.toNat):=by
 funext i
 rw[jx]
 congr 1
 apply propext
 rw[<- e,List.getElem?_map,<- Array.getElem?_toList]
 cases b.toList[i]? with
 | none=>simp
 | some z=>simp[UInt8.toNat_inj]
theorem yX {b:Array UInt8}{k:UInt8}{l:List Nat} (e:b.toList.map UInt8.toNat=l) :
  ((if (b.size:Int) - 0<((#[k]:Array UInt8).size:Int) then none else some ((0:Int).toNat,(b.size:Int).toNat)):Option (Nat × Nat)).bind (fun x=>Bytes.find? b #[k] x.1 x.2)=(List.range l.length).find? (fun i=>decide (l[i]?=some k.toNat)):=by
 have hl:=a8 e
 by_cases q:(b.size:Int) - 0<((#[k]:Array UInt8).size:Int)
 ·rw[if_pos q]
  have h0:l.length=0:=by
   have:((#[k]:Array UInt8).size:Int)=1:=rfl
   lia
  rw[h0];rfl
 ·rw[if_neg q]
  show Bytes.find? b #[k] 0 b.size=_
  unfold Bytes.find?
  have e1:(List.range (b.size+1 - (0+(#[k]:Array UInt8).size))).map (·+0)=List.range l.length:=by
   rw[show (#[k]:Array UInt8).size=1 from rfl,show b.size+1 - (0+1)=l.length by lia];simp
  rw[e1]
  exact congrArg (List.find? · (List.range l.length)) (oj b k l e)
theorem BR {b:Array UInt8}{k:UInt8}{l:List Nat} (e:b.toList.map UInt8.toNat=l) :
  ((if (b.size:Int) - 0<((#[k]:Array UInt8).size:Int) then none else some ((0:Int).toNat,(b.size:Int).toNat)):Option (Nat × Nat)).bind (fun x=>Bytes.rfind? b #[k] x.1 x.2)=(List.range l.length).reverse.find? (fun i=>decide (l[i]?=some k.toNat)):=by
 have hl:=a8 e
 by_cases q:(b.size:Int) - 0<((#[k]:Array UInt8).size:Int)
 ·rw[if_pos q]
  have h0:l.length=0:=by
   have:((#[k]:Array UInt8).size:Int)=1:=rfl
   lia
  rw[h0];rfl
 ·rw[if_neg q]
  show Bytes.rfind? b #[k] 0 b.size=_
  unfold Bytes.rfind?
  have e1:(List.range (b.size+1 - (0+(#[k]:Array UInt8).size))).map (·+0)=List.range l.length:=by
   rw[show (#[k]:Array UInt8).size=1 from rfl,show b.size+1 - (0+1)=l.length by lia];simp
  rw[e1]
  exact congrArg (List.find? · (List.range l.length).reverse) (oj b k l e)
theorem BU (b:Array UInt8) (k:UInt8) (t u:Tok) (l:List Nat) (e:b.toList.map UInt8.toNat=l):Meets («bytes.find» ⟨[.bytes b t,.bytes #[k] u],[]⟩) (fun O R s=>R (.ok (.ret (.int (findAt [k.toNat] l 0) s.toks))) { s with toks:=s.toks+1 }):=
 .of_wp fun prog w A R s h=>by
  unfold «bytes.find» Bytes.searchM Bytes.searchArgs
  refine wpAny_bind ?_
  refine wpAny_bind (wpAny_of_eq (a:=(Value.bytes b t,[Value.bytes #[k] u])) rfl ?_)
  dsimp only
  refine wpAny_bind (wpAny_of_eq (a:=none) rfl ?_)
  refine wpAny_bind (wpAny_of_eq (a:=none) rfl ?_)
  refine wpAny_bind (wpAny_of_eq KBy.buffer_eq ?_)
  refine wpAny_bind (wpAny_of_eq (a:=#[k]) rfl ?_)
  refine wpAny_bind (wpAny_of_eq (a:=b) rfl ?_)
  rw[gp]
  refine wpAny_pure ?_
  have hs:=yX (k:=k) e
  rw[wx] at h
  generalize hg:Option.bind _ _=o
  have ho:o=(List.range l.length).find? (fun i=>decide (l[i]?=some k.toNat)):=hg.symm.trans hs
  rw[<- ho] at h
  cases o with
  | some i=>exact wpAny_bind (wpAny_mkInt (wpAny_pure ⟨_,rfl,h⟩))
  | none=>exact wpAny_bind (wpAny_rule (wpAny_bind (wpAny_mkInt (wpAny_pure ⟨_,rfl,h⟩))))
theorem yZ (b:Array UInt8) (k:UInt8) (t u:Tok) (l:List Nat) (e:b.toList.map UInt8.toNat=l):Meets («bytes.rfind» ⟨[.bytes b t,.bytes #[k] u],[]⟩) (fun O R s=>R (.ok (.ret (.int (ia k.toNat l 0 (-1)) s.toks))) { s with toks:=s.toks+1 }):=
 .of_wp fun prog w A R s h=>by
  unfold «bytes.rfind» Bytes.searchM Bytes.searchArgs
  refine wpAny_bind ?_
  refine wpAny_bind (wpAny_of_eq (a:=(Value.bytes b t,[Value.bytes #[k] u])) rfl ?_)
  dsimp only
  refine wpAny_bind (wpAny_of_eq (a:=none) rfl ?_)
  refine wpAny_bind (wpAny_of_eq (a:=none) rfl ?_)
  refine wpAny_bind (wpAny_of_eq KBy.buffer_eq ?_)
  refine wpAny_bind (wpAny_of_eq (a:=#[k]) rfl ?_)
  refine wpAny_bind (wpAny_of_eq (a:=b) rfl ?_)
  rw[gp]
  refine wpAny_pure ?_
  have hs:=BR (k:=k) e
  rw[wy] at h
  generalize hg:Option.bind _ _=o
  have ho:o=(List.range l.length).reverse.find? (fun i=>decide (l[i]?=some k.toNat)):=hg.symm.trans hs
  rw[<- ho] at h
  cases o with
  | some i=>exact wpAny_bind (wpAny_mkInt (wpAny_pure ⟨_,rfl,h⟩))
  | none=>exact wpAny_bind (wpAny_rule (wpAny_bind (wpAny_mkInt (wpAny_pure ⟨_,rfl,h⟩))))
section
variable {prog:Program}{w:World}{base:Heap}{cl:dB->Value}{A:Around}{X:Addr->Prop}{s:Shared}
set_option tactic.hygienic true in
theorem om {l:List Nat}{v:Value}{ds:List V}{vs:List Value} (r:Rep (seen X s.heap) (.bytes l) v) (rs:ay (seen X s.heap) ds vs):Ev prog w base cl A X false (call (.builtin "bytes.startswith") (v::vs) []) s (bq .startswith (.bytes l::ds)):=by
 cases ds with
 | nil=>exact .stuck
 | cons d rest=>
  cases d<;>cases rest<;>try exact .stuck
  rename_i m
  refine Exists.elim (ew rs) fun u zz=>aB zz fun av r1=>?_;clear zz;subst av
  refine aT r fun y t e hl=>?_
  refine aT r1 fun z t2 e2 O=>?_
  show Ev prog w base cl A X false _ s (.ok (.bool (m.isPrefixOf l)))
  refine Ev.flat (fun O O O=>trivial) fun Q E hQ=>call_meets FB.slot_bytes_startswith (W.typeIs_bytes s y t) FB.entry_bytes_startswith (FB.args_bytes_startswith_2 _ _) (wu y z t t2) ?_
  rw[yW e e2]
  exact hQ _ s.toks (et _)
set_option tactic.hygienic true in
theorem sk {l:List Nat}{v:Value}{ds:List V}{vs:List Value} (r:Rep (seen X s.heap) (.bytes l) v) (rs:ay (seen X s.heap) ds vs):Ev prog w base cl A X false (call (.builtin "bytes.endswith") (v::vs) []) s (bq .endswith (.bytes l::ds)):=by
 cases ds with
 | nil=>exact .stuck
 | cons d rest=>
  cases d<;>cases rest<;>try exact .stuck
  rename_i m
  refine Exists.elim (ew rs) fun u zz=>aB zz fun av r1=>?_;clear zz;subst av
  refine aT r fun y t e hl=>?_
  refine aT r1 fun z t2 e2 O=>?_
  show Ev prog w base cl A X false _ s (.ok (.bool (m.isSuffixOf l)))
  refine Ev.flat (fun O O O=>trivial) fun Q E hQ=>call_meets FB.slot_bytes_endswith (W.typeIs_bytes s y t) FB.entry_bytes_endswith (FB.args_bytes_endswith_2 _ _) (BQ y z t t2) ?_
  rw[HF e e2]
  exact hQ _ s.toks (et _)
set_option tactic.hygienic true in
theorem BV {l:List Nat}{v:Value}{ds:List V}{vs:List Value} (r:Rep (seen X s.heap) (.bytes l) v) (rs:ay (seen X s.heap) ds vs):Ev prog w base cl A X false (call (.builtin "bytes.find") (v::vs) []) s (bq .find (.bytes l::ds)):=by
 cases ds with
 | nil=>exact .stuck
 | cons d rest=>
  cases d<;>cases rest<;>try exact .stuck
  case bytes.cons m _ _=>cases m with
   | nil=>exact .stuck
   | cons c m=>cases m<;>exact .stuck
  rename_i m
  cases m with
  | nil=>exact .stuck
  | cons c m=>
   cases m with
   | cons _ _=>exact .stuck
   | nil=>
    refine Exists.elim (ew rs) fun u zz=>aB zz fun av r1=>?_;clear zz;subst av
    refine aT r fun y t e hl=>?_
    refine aT r1 fun z t2 e2 O=>?_
    refine Exists.elim (mJ e2) fun k zz=>aB zz fun av gQ=>?_;clear zz;subst av;subst gQ
    show Ev prog w base cl A X false _ s (.ok (.int (findAt [k.toNat] l 0)))
    exact Ev.flat (fun O O O=>trivial) fun Q E hQ=>call_meets FY.fe (W.typeIs_bytes s y t) FY.oh (FY.mV _ _) (BU y k t t2 l e) (hQ _ _ (bB _ _))
set_option tactic.hygienic true in
theorem y0 {l:List Nat}{v:Value}{ds:List V}{vs:List Value} (r:Rep (seen X s.heap) (.bytes l) v) (rs:ay (seen X s.heap) ds vs):Ev prog w base cl A X false (call (.builtin "bytes.rfind") (v::vs) []) s (bq .rfind (.bytes l::ds)):=by
 cases ds with
 | nil=>exact .stuck
 | cons d rest=>
  cases d<;>cases rest<;>try exact .stuck
  case bytes.cons m _ _=>cases m with
   | nil=>exact .stuck
   | cons c m=>cases m<;>exact .stuck
  rename_i m
  cases m with
  | nil=>exact .stuck
  | cons c m=>
   cases m with
   | cons _ _=>exact .stuck
   | nil=>
    refine Exists.elim (ew rs) fun u zz=>aB zz fun av r1=>?_;clear zz;subst av
    refine aT r fun y t e hl=>?_
    refine aT r1 fun z t2 e2 O=>?_
    refine Exists.elim (mJ e2) fun k zz=>aB zz fun av gQ=>?_;clear zz;subst av;subst gQ
    show Ev prog w base cl A X false _ s (.ok (.int (ia k.toNat l 0 (-1))))
    exact Ev.flat (fun O O O=>trivial) fun Q E hQ=>call_meets FY.eO (W.typeIs_bytes s y t) FY.mW (FY.lI _ _) (yZ y k t t2 l e) (hQ _ _ (bB _ _))
end
theorem y2 {j:Type}{f:Nat->j->Sem (ForInStep j)} (P:Nat->j->Prop) (next:j->j) (h:∀ i k s,P (k+1) s->f i s=pure (.yield (next s))/\P k (next s)):∀ (l:List Nat) (s:j),P l.length s->∃ s',forIn l s f=(pure s':Sem j)/\P 0 s':=by
 intro z0
 induction z0 with
 | nil=>
  exact fun s hp=>⟨s,rfl,hp⟩
 | cons a l ih=>
  intro s hp
  refine aB (h a l.length s hp) fun h1 h2=>?_
  refine Exists.elim (ih (next s) h2) fun s' zz=>aB zz fun e q=>?_
  exact⟨s',by rw[List.forIn_cons,h1];exact e,q⟩
theorem BW {j β:Type}{f:Nat->j->Sem (ForInStep j)}{g:j->Sem β}{n:Nat}{s:j}{r:β} (P:Nat->j->Prop) (next:j->j) (h0:P n s) (h:∀ i k s,P (k+1) s->f i s=pure (.yield (next s))/\P k (next s)) (hg:∀ s',P 0 s'->g s'=pure r) :
  (forIn [:n] s f >>= g)=pure r:=by
 rw[Std.Legacy.Range.forIn_eq_forIn_range']
 have he:(List.range' [:n].start [:n].size [:n].step).length=n:=by rw[List.length_range'];simp[Std.Legacy.Range.size]
 refine Exists.elim (y2 P next h _ s (he.symm ▸ h0)) fun s' zz=>aB zz fun e q=>?_
 rw[e]
 exact hg s' q
theorem La (id:String) (b:Array UInt8) (j4:b.size<=sizeLine) (hb:∀ (i:Nat) (c:UInt8),b[i]?=some c->c.toNat<128):_codecs.runDecoder id _codecs.utf8Decoder none true b 0 []=pure (b.map UInt8.toNat,b.size):=by
 refine BW (fun k s=>s.1+k=b.size/\s.2.1=(b.extract 0 s.1).map UInt8.toNat) (fun s=>(s.1+1,s.2.1++[(b.getD s.1 0).toNat].toArray,s.2.2)) ⟨Nat.zero_add _,by simp⟩ (fun i k st hp=>?_) fun st hp=>?_
 ·obtain⟨p,out,fl⟩:=st
  obtain⟨h1,h2⟩:=hp
  dsimp only at h1 h2 ⊢
  have hJ:p<b.size:=by lia
  have Z0:out.size=p:=by rw[h2];simp;lia
  have Vi:b[p]?=some b[p]:=Array.getElem?_eq_getElem hJ
  have hg:b.getD p 0=b[p]:=by simp[Array.getD,hJ]
  have hc:(b.getD p 0).toNat<128:=by rw[hg];exact hb p _ Vi
  have Vj:_codecs.utf8Decoder.find true b p=.text [(b.getD p 0).toNat] (p+1):=by
   unfold _codecs.utf8Decoder
   dsimp only
   have:Bytes.utf8At b p=(.char (b.getD p 0).toNat,p+1):=by
    unfold Bytes.utf8At
    dsimp only
    rw[if_pos (show (b.getD p 0).toNat<0x80 from hc)]
   rw[this];rfl
  refine⟨?_,by lia,?_⟩
  ·rw[if_neg (by lia),if_neg (by lia),Vj]
  ·rw[h2,hg]
   apply Array.toList_inj.mp
   simp only[Array.toList_append,Array.toList_map,Array.toList_extract,List.extract_eq_drop_take,List.drop_zero,Nat.sub_zero]
   rw[List.take_succ,List.map_append]
   congr 1
   rw[show b.toList[p]?=some b[p] by rw[Array.getElem?_toList];exact Vi]
   rfl
 ·obtain⟨p,out,fl⟩:=st
  obtain⟨h1,h2⟩:=hp
  dsimp only at h1 h2 ⊢
  have:p=b.size:=by lia
  subst this
  rw[h2,Array.extract_size]
theorem fold_map (f:Nat->List UInt8) (g:Nat->UInt8):∀ (l:List Nat),(∀ c∈l,f c=[g c])->∀ acc:Array UInt8,l.foldl (fun acc y=>acc++(f y).toArray) acc=acc++(l.map g).toArray:=by
 intro z0
 induction z0 with
 | nil=>
  intro _ acc
  simp
 | cons c r ih=>
  intro h acc
  rw[List.foldl_cons,ih (fun z hz=>h z (.tail _ hz)),h c (.head _)]
  simp
theorem BX {j β:Type}{f:Nat->j->Sem (ForInStep j)}{g:j->Sem β}{n:Nat}{s s₁:j}{r:β} (h1:∀ i,f i s=pure (.yield s₁)) (h2:∀ i,f i s₁=pure (.done s₁)) (hl:n≠0) (hg:g s₁=pure r):(forIn [:n] s f >>= g)=pure r:=by
 have e:forIn [:n] s f=pure s₁:=by
  rw[Std.Legacy.Range.forIn_eq_forIn_range']
  cases hq:List.range' [:n].start [:n].size [:n].step with
  | nil=>have:=congrArg List.length hq;rw[List.length_range'] at this;exact absurd (by simpa [Std.Legacy.Range.size] using this) hl
  | cons a l=>
   rw[List.forIn_cons,h1]
   cases l with
   | nil=>rfl
   | cons b l=>
    show (forIn (b::l) s₁ f:Sem j)=_
    rw[List.forIn_cons,h2];rfl
 rw[e];exact hg
theorem forIn_none {j β:Type}{f:Nat->j->Sem (ForInStep j)}{g:j->Sem β}{s:j}{r:β} (hg:g s=pure r):(forIn [:0] s f >>= g)=pure r:=by
 rw[Std.Legacy.Range.forIn_eq_forIn_range']
 exact hg
theorem Lb (id:String) (self:Value) (x:PySem.Str) (j4:x.length<=sizeLine) (hb:∀ c∈x.cps.toList,c<128):_codecs.encodeNarrow id _codecs.utf8Codec none self x=pure (x.cps.map fun c=>c.toUInt8):=by
 have vP:∀ c∈x.cps.toList,_codecs.utf8Codec.bad c=false:=fun c hc=>by
  have:=hb c hc
  show PySem.Str.isSurrogate c=false
  unfold PySem.Str.isSurrogate
  simp;lia
 have Se:∀ c∈x.cps.toList,_codecs.utf8Codec.bytesOf c=[c.toUInt8]:=fun c hc=>by
  have:=hb c hc
  show PySem.Str.utf8Of c=_
  unfold PySem.Str.utf8Of
  simp[this]
 have Vk:x.cps.foldl (fun acc y=>acc++(_codecs.utf8Codec.bytesOf y).toArray) #[]=x.cps.map fun c=>c.toUInt8:=by
  rw[<- Array.foldl_toList,fold_map _ _ _ Se]
  apply Array.toList_inj.mp
  simp
 have hnone:Array.findIdx? _codecs.utf8Codec.bad x.cps=none:=by
  rw[Array.findIdx?_eq_none_iff]
  intro c hc
  exact vP c (Array.mem_toList_iff.mpr hc)
 by_cases h0:x.cps.size=0
 ·have h1:x.cps=#[]:=Array.size_eq_zero_iff.mp h0
  obtain⟨cp⟩:=x
  obtain rfl:cp=#[]:=h1
  exact forIn_none (congrArg pure (Array.map_empty (f:=fun c:Nat=>c.toUInt8)).symm)
 ·obtain⟨c,hc⟩:∃ c,x.cps[0]?=some c:=⟨_,Array.getElem?_eq_getElem (by lia)⟩
  have Z1:c∈x.cps.toList:=Array.mem_toList_iff.mpr (Array.mem_of_getElem? hc)
  refine BX (s₁:=(x.cps.size,x.cps.map fun c=>c.toUInt8,{})) (fun i=>?_) (fun i=>?_) ?_ rfl
  ·dsimp only
   rw[if_neg (by simp),hc]
   dsimp only
   rw[vP c Z1,if_pos (show (!false)=true from rfl)]
   have e1:x.cps.extract 0=x.cps:=by simp
   rw[e1,hnone]
   rw[Option.getD_none,Nat.zero_add]
   have e2:x.cps.extract 0 x.cps.size=x.cps:=by simp
   rw[e2,Vk]
  ·dsimp only
   have:¬ (x.cps.map fun c=>c.toUInt8).size > sizeLine:=by
    rw[Array.size_map];exact Nat.not_lt.mpr j4
   rw[if_neg this,Array.getElem?_eq_none (Nat.le_refl _)]
  ·exact h0
section
variable {prog:Program}{w:World}{base:Heap}{cl:dB->Value}{A:Around}{X:Addr->Prop}{s:Shared}
theorem BZ {l:List Nat}{v:Value}{ds:List V}{vs:List Value} (r:Rep (seen X s.heap) (.str l) v) (rs:ay (seen X s.heap) ds vs):Ev prog w base cl A X false (call (.builtin "str.encode") (v::vs) []) s (bq .encode (.str l::ds)):=by
 cases ds with
 | cons d rest=>exact .stuck
 | nil=>
  skip;subst rs
  refine cH r fun y t e hl=>?_
  show Ev prog w base cl A X false _ s (R.guard (ascii l) (.ok (.bytes l)))
  refine Ev.guard fun hg=>?_
  have ha:∀ c∈y.cps.toList,c<128:=fun c hc=>by
   rw[e] at hc
   have:=List.all_eq_true.mp hg c hc
   simpa using this
  have Sb:=str_len e
  have hline:=bu
  refine Ev.flat (fun O O O=>trivial) fun Q E hQ=>wpAny_call_entry F.slot_str_encode (typeIs_str s y t) F.entry_str_encode ?_ (F.args_str_encode_1 _)
  rw[encode_tree,encodeRoad_utf8,Lb _ _ _ (by lia) ha]
  refine wpAny_bind (wpAny_bind (wpAny_pure (wpAny_mkBytes ?_ ?_)))
  ·refine wpAny_pure ⟨_,rfl,hQ _ _ (dF _ ?_ hl)⟩
   rw[Array.toList_map,List.map_map,<- e]
   refine (List.map_congr_left fun c hc=>?_).trans (List.map_id _)
   have:=ha c hc
   show (c.toUInt8).toNat=c
   rw[Nat.toUInt8_eq,UInt8.toNat_ofNat']
   lia
  ·rw[Array.size_map];show y.length<=_;lia
theorem wz {l:List Nat}{v:Value}{ds:List V}{vs:List Value} (r:Rep (seen X s.heap) (.bytes l) v) (rs:ay (seen X s.heap) ds vs):Ev prog w base cl A X false (call (.builtin "bytes.decode") (v::vs) []) s (bq .decode (.bytes l::ds)):=by
 cases ds with
 | cons d rest=>exact .stuck
 | nil=>
  skip;subst rs
  refine aT r fun y t e hl=>?_
  show Ev prog w base cl A X false _ s (R.guard (!l.isEmpty&&ascii l) (.ok (.str l)))
  refine Ev.guard fun hg=>?_
  simp only[Bool.and_eq_true,Bool.not_eq_true',List.isEmpty_eq_false_iff] at hg
  refine aB hg fun ne ha=>?_
  obtain⟨yl⟩:=y
  cases yl with
  | nil=>exact absurd e.symm (by simpa using ne)
  | cons c cs=>
   have hb:∀ (i:Nat) (z:UInt8),(c::cs).toArray[i]?=some z->z.toNat<128:=fun i z hz=>by
    have hm:z∈(c::cs):=by
     rw[List.getElem?_toArray] at hz
     exact List.mem_of_getElem? hz
    have:z.toNat∈l:=by rw[<- e];exact List.mem_map_of_mem hm
    have:=List.all_eq_true.mp ha _ this
    simpa using this
   have hlen:(c::cs).toArray.size=l.length:=a8 e
   have hline:=bu
   refine Ev.flat (fun O O O=>trivial) fun Q E hQ=>KBd.decode (x:=⟨(c::cs).toArray.map UInt8.toNat⟩) (n:=(c::cs).toArray.size) (fun id=>La id _ (by lia) hb) (by show ((c::cs).toArray.map UInt8.toNat).size<=_;rw[Array.size_map];lia) fun t' k=>hQ _ _ (c6 _ ?_ hl)
   rw[<- e]
   show ((c::cs).toArray.map UInt8.toNat).toList=_
   rw[Array.toList_map]
end
section
variable {prog:Program}{w:World}{base:Heap}{cl:dB->Value}{A:Around}{X:Addr->Prop}{s:Shared}{D:Fn->List V->R V}{n:Nat}{sc:Scope}{j:List (PySem.Str × Nat)}{K:Frag}
theorem B1 {f1:Bool}{np bp pos:Pos}{e:Expr}{p:PE} (W:Wd K base) (hk:sc.names.lookup (Str.ofString "isinstance")=some .globalImplicit) (hg:nsIn K mainGlobals (Str.ofString "isinstance")=some none) (hb:bootBuiltins (Str.ofString "isinstance")=some (.builtin "isinstance"))
  (Z2:sc.names.lookup (Str.ofString "bytes")=some .globalImplicit) (Xf:nsIn K mainGlobals (Str.ofString "bytes")=some none) (Z3:bootBuiltins (Str.ofString "bytes")=some (.type "bytes"))
  (h:aL prog w base cl D n f1 sc j e p) (hs:notStar e=true:=by rfl):aL prog w base cl D n false sc j (.Call (.Name (Str.ofString "isinstance") np) [e,.Name (Str.ofString "bytes") bp] [] pos) (.prim .isBytes (.cons p .nil)):=fun A X ec J s a Q E po aq=>by
 have e0:ak D (.prim .isBytes (.cons p .nil)) J=(ak D p J).bind fun d=>bq .isBytes [d]:=by
  rw[Mj,pY,CH];cases ak D p J<;>rfl
 rw[e0] at po aq
 refine dz (cJ W a.cx.stays a.ge a.scope hk hg hb ?_ (by decide) (by decide)).g
 have gg:starEach [e,.Name (Str.ofString "bytes") bp] ec=[(false,eval e ec),(false,eval (.Name (Str.ofString "bytes") bp) ec)]:=aR hs
 rw[gg]
 refine cn rfl (c5 (cR (h A X ec J s a _ _ ⟨fun d v ai tk e₁ k rp O=>?_,po.ex.of⟩ (R.aN aq))))
 have cL:=po.step (tk:=tk) e₁ k
 have ao:=R.aW aq e₁
 have a₁:=a.kept k
 refine cR (cJ (s:={ s with heap:=ai,toks:=tk }) W a₁.cx.stays a₁.ge a₁.scope Z2 Xf Z3 (spliced_nil ?_).g (by decide) (by decide)).g
 cases d<;>try exact absurd rfl ao
 ·refine cH rp fun y t O O=>?_
  exact wpAny.g (IsiPair.str_bytes (cL.ok (.bool false) _ ai _ rfl (.refl _ _) (et _) fun q=>by contradiction))
 ·refine aT rp fun y t O O=>?_
  exact wpAny.g (K4 fun mz=>cL.ok (.bool true) _ ai mz rfl (.refl _ _) (et _) fun q=>by contradiction)
end
theorem Chain.support {h:Heap}{n:Nat}{a:Addr} (c:Chain h n a):∃ l:List Addr,(∀ b∈l,b<h.objs.size)/\∀ h',(∀ b∈l,∀ o,h.get? b=some o->h'.get? b=some o)->Chain h' n a:=by
 induction c with
 | @last a o vs e hf ht hd h2=>exact⟨[a],(by simp;exact Heap.lt_size e),fun h' k=>.last (k _ (.head _) _ e) hf ht hd h2⟩
 | @more n a b o vs e hf ht hd h2 c ih=>
  refine Exists.elim ih fun l zz=>aB zz fun h1 h3=>?_
  refine⟨a::l,fun x hx=>?_,fun h' k=>.more (k _ (.head _) _ e) hf ht hd h2 (h3 h' fun x hx=>k x (.tail _ hx))⟩
  rcases List.mem_cons.mp hx with q | q
  ·rw[q];exact Heap.lt_size e
  ·exact h1 x q
theorem cy.support {A:Around}{h:Heap} (x:cy A h):∃ l:List Addr,(∀ b∈l,b<h.objs.size)/\∀ h',(∀ b∈l,∀ o,h.get? b=some o->h'.get? b=some o)->cy A h':=by
 rcases x with x | ⟨a,n,x,c⟩
 ·exact⟨[],(by simp),fun O O=>.inl x⟩
 ·refine Exists.elim c.support fun l zz=>aB zz fun h1 h2=>?_
  exact⟨l,h1,fun h' k=>.inr ⟨a,n,x,h2 h' k⟩⟩
theorem ph {prog:Program}{w:World}{A:Around}{h₀:Heap}{l:List Addr} (hl:∀ h',(∀ b∈l,∀ o,h₀.get? b=some o->h'.get? b=some o)->cy A h') (I ax:Addr) (aq:ax≠I) (hI:I∉l) (items:Array Value) :
  Walks prog w A I (I::ax::l) [I] items.size (fun i v=>items[i]?=some v) (fun i h=>(h.IsTupleIter I ax i/\h.IsTuple ax items)/\∀ b∈l,∀ o,h₀.get? b=some o->h.get? b=some o) where
 sub:=fun b hb=>by simp at hb;simp[hb]
 frame:=fun O O O st hk=>⟨⟨st.1.1.at fun o e=>hk I (by simp) o e,st.1.2.at fun o e=>hk ax (by simp) o e⟩,fun b hb o e=>hk b (by simp[hb]) o (st.2 b hb o e)⟩
 item:=fun i s Q E hi st hQ=>by
  refine wpAny_pyNext_tuple_item st.1.1 st.1.2 (x:=items[i]) (by simp[hi]) fun h' Sf nJ=>?_
  exact hQ _ h' s.toks (by simp[hi]) ⟨⟨Sf,st.1.2.extBut nJ.extBut aq⟩,fun b hb o e=>nJ.extBut b o (fun q=>hI (q ▸ hb)) (st.2 b hb o e)⟩ fun b o hb e=>nJ.extBut b o (fun h=>hb (by simp[h])) e
 done:=fun s Q E st hQ=>next_tuple_end (hl _ st.2) st.1.1 st.1.2 (by simp) fun h' Z4=>hQ h' s.toks fun b o hb e=>Z4 b o (fun h=>hb (by simp[h])) e
 self:=fun O O O O st hQ=>wpAny_pyIter_tupleiter st.1.1 hQ
section
variable {prog:Program}{w:World}{base:Heap}{cl:dB->Value}{A:Around}{X:Addr->Prop}{s:Shared}
theorem Lc {a b:Int}{t u:Tok}{Q:Value->Shared->Prop}{E:Value->Shared->Prop} (hh:cy A s.heap)
  (h:∀ h' tk,(∀ c o,s.heap.get? c=some o->h'.get? c=some o)->Q (if b<a then .int b u else .int a t) { s with heap:=h',toks:=tk }) :
  wpAny (model prog w) A (call (.builtin "min") [.int a t,.int b u]) Q E s:=by
 refine Exists.elim hh.support fun l zz=>aB zz fun hl hs=>?_
 have hT:(s.heap.push { cls:=.type "tuple",data:=.seq #[.int a t,.int b u] }).IsTuple s.heap.objs.size (intItems #[(a,t),(b,u)]):=⟨_,Heap.get?_push_size _ rfl,rfl,0,by simp[intItems]⟩
 refine call_min_two (wpAny_pyIter_tuple hT ?_)
 have j4:(s.heap.push { cls:=.type "tuple",data:=.seq #[.int a t,.int b u] }).objs.size=s.heap.objs.size+1:=Heap.size_push ..
 refine⟨_,_::s.heap.objs.size::l,[_],_,_,_,_,rfl,ph (A:=A.in1) (h₀:=s.heap) (l:=l) hs _ s.heap.objs.size (by rw[j4];exact Nat.ne_of_lt (Nat.lt_succ_self _)) (fun q=>absurd (hl _ q) (by rw[j4];exact Nat.not_lt.mpr (Nat.le_succ _))) (intItems #[(a,t),(b,u)]),
  ⟨⟨⟨_,Heap.get?_push_size _ rfl,rfl,rfl⟩,hT.push _⟩,fun b hb o e=>Heap.get?_push_of_some _ (Heap.get?_push_of_some _ e)⟩,fun c hc=>?_,by simp[intItems],CmpOf.ints_lt (numAt #[(a,t),(b,u)]) (fun O O=>intItems_at),fun v h' tk hP hk=>?_⟩
 ·show c<((s.heap.push _).push _).objs.size
  rw[Heap.size_push,j4]
  rcases List.mem_cons.mp hc with rfl | hc
  ·rw[j4];exact Nat.lt_succ_self _
  ·rcases List.mem_cons.mp hc with rfl | hc
   ·exact Nat.lt_succ_of_lt (Nat.lt_succ_self _)
   ·exact Nat.lt_succ_of_lt (Nat.lt_succ_of_lt (hl c hc))
 ·have hold:∀ c o,s.heap.get? c=some o->h'.get? c=some o:=fun c o e=>by
   refine hk c o (fun hm=>?_) (Heap.get?_push_of_some _ (Heap.get?_push_of_some _ e))
   rcases List.mem_cons.mp hm with e1 | hm
   ·have hJ:=Heap.lt_size e;rw[e1,j4] at hJ;exact absurd hJ (Nat.not_lt.mpr (Nat.le_succ _))
   ·contradiction
  have h1:=h h' tk hold
  have hv:v=if b<a then Value.int b u else Value.int a t:=by
   have O0:(intItems #[(a,t),(b,u)])[argBest (fun i aaH=>decide (numAt #[(a,t),(b,u)] i<numAt #[(a,t),(b,u)] aaH)) 1]?=some v:=by
    have K5:(intItems #[(a,t),(b,u)]).size - 1=1:=by simp[intItems]
    rw[<- K5];exact hP
   by_cases hc:b<a
   ·have e:argBest (fun i aaH=>decide (numAt #[(a,t),(b,u)] i<numAt #[(a,t),(b,u)] aaH)) 1=1:=by simp[argBest,numAt,hc]
    rw[e] at O0
    rw[if_pos hc];simpa [intItems] using O0.symm
   ·have e:argBest (fun i aaH=>decide (numAt #[(a,t),(b,u)] i<numAt #[(a,t),(b,u)] aaH)) 1=0:=by simp[argBest,numAt,hc]
    rw[e] at O0
    rw[if_neg hc];simpa [intItems] using O0.symm
  rw[hv];exact h1
theorem Ld {a b:Int}{t u:Tok}{Q:Value->Shared->Prop}{E:Value->Shared->Prop} (hh:cy A s.heap)
  (h:∀ h' tk,(∀ c o,s.heap.get? c=some o->h'.get? c=some o)->Q (if b > a then .int b u else .int a t) { s with heap:=h',toks:=tk }) :
  wpAny (model prog w) A (call (.builtin "max") [.int a t,.int b u]) Q E s:=by
 refine Exists.elim hh.support fun l zz=>aB zz fun hl hs=>?_
 have hT:(s.heap.push { cls:=.type "tuple",data:=.seq #[.int a t,.int b u] }).IsTuple s.heap.objs.size (intItems #[(a,t),(b,u)]):=⟨_,Heap.get?_push_size _ rfl,rfl,0,by simp[intItems]⟩
 refine call_max_two (wpAny_pyIter_tuple hT ?_)
 have j4:(s.heap.push { cls:=.type "tuple",data:=.seq #[.int a t,.int b u] }).objs.size=s.heap.objs.size+1:=Heap.size_push ..
 refine⟨_,_::s.heap.objs.size::l,[_],_,_,_,_,rfl,ph (A:=A.in1) (h₀:=s.heap) (l:=l) hs _ s.heap.objs.size (by rw[j4];exact Nat.ne_of_lt (Nat.lt_succ_self _)) (fun q=>absurd (hl _ q) (by rw[j4];exact Nat.not_lt.mpr (Nat.le_succ _))) (intItems #[(a,t),(b,u)]),
  ⟨⟨⟨_,Heap.get?_push_size _ rfl,rfl,rfl⟩,hT.push _⟩,fun b hb o e=>Heap.get?_push_of_some _ (Heap.get?_push_of_some _ e)⟩,fun c hc=>?_,by simp[intItems],CmpOf.ints_gt (numAt #[(a,t),(b,u)]) (fun O O=>intItems_at),fun v h' tk hP hk=>?_⟩
 ·show c<((s.heap.push _).push _).objs.size
  rw[Heap.size_push,j4]
  rcases List.mem_cons.mp hc with rfl | hc
  ·rw[j4];exact Nat.lt_succ_self _
  ·rcases List.mem_cons.mp hc with rfl | hc
   ·exact Nat.lt_succ_of_lt (Nat.lt_succ_self _)
   ·exact Nat.lt_succ_of_lt (Nat.lt_succ_of_lt (hl c hc))
 ·have hold:∀ c o,s.heap.get? c=some o->h'.get? c=some o:=fun c o e=>by
   refine hk c o (fun hm=>?_) (Heap.get?_push_of_some _ (Heap.get?_push_of_some _ e))
   rcases List.mem_cons.mp hm with e1 | hm
   ·have hJ:=Heap.lt_size e;rw[e1,j4] at hJ;exact absurd hJ (Nat.not_lt.mpr (Nat.le_succ _))
   ·contradiction
  have h1:=h h' tk hold
  have hv:v=if b > a then Value.int b u else Value.int a t:=by
   have O0:(intItems #[(a,t),(b,u)])[argBest (fun i aaH=>decide (numAt #[(a,t),(b,u)] i > numAt #[(a,t),(b,u)] aaH)) 1]?=some v:=by
    have K5:(intItems #[(a,t),(b,u)]).size - 1=1:=by simp[intItems]
    rw[<- K5];exact hP
   by_cases hc:b > a
   ·have e:argBest (fun i aaH=>decide (numAt #[(a,t),(b,u)] i > numAt #[(a,t),(b,u)] aaH)) 1=1:=by simp[argBest,numAt,hc]
    rw[e] at O0
    rw[if_pos hc];simpa [intItems] using O0.symm
   ·have e:argBest (fun i aaH=>decide (numAt #[(a,t),(b,u)] i > numAt #[(a,t),(b,u)] aaH)) 1=0:=by simp[argBest,numAt,hc]
    rw[e] at O0
    rw[if_neg hc];simpa [intItems] using O0.symm
  rw[hv];exact h1
set_option tactic.hygienic true in
theorem Le {fr:Bool}:fc prog w base cl fr (.builtin "min") .min:=fun A X s ds vs hh hu hl r=>by
 cases ds with
 | nil=>exact .stuck
 | cons d ds=>
 cases d<;>try exact .stuck
 rename_i a
 cases ds with
 | nil=>exact .stuck
 | cons e ds=>
 cases e<;>cases ds<;>try exact .stuck
 rename_i b
 show Ev prog w base cl A X fr _ s (.ok (.int (if b<a then b else a)))
 refine bT (Qt r) fun v v2 zz=>b5 zz fun av r1 r2=>?_;clear zz;subst av
 refine aP r1 fun t=>?_
 refine aP r2 fun u=>?_
 refine Ev.val fun Q E hQ=>Lc hh fun h' tk k=>?_
 by_cases hc:b<a
 ·rw[if_pos hc];rw[if_pos hc] at hQ;exact hQ _ _ _ (.of_keeps k) (bB _ _) fun O=>trivial
 ·rw[if_neg hc];rw[if_neg hc] at hQ;exact hQ _ _ _ (.of_keeps k) (bB _ _) fun O=>trivial
set_option tactic.hygienic true in
theorem Lf {fr:Bool}:fc prog w base cl fr (.builtin "max") .max:=fun A X s ds vs hh hu hl r=>by
 cases ds with
 | nil=>exact .stuck
 | cons d ds=>
 cases d<;>try exact .stuck
 rename_i a
 cases ds with
 | nil=>exact .stuck
 | cons e ds=>
 cases e<;>cases ds<;>try exact .stuck
 rename_i b
 show Ev prog w base cl A X fr _ s (.ok (.int (if a<b then b else a)))
 refine bT (Qt r) fun v v2 zz=>b5 zz fun av r1 r2=>?_;clear zz;subst av
 refine aP r1 fun t=>?_
 refine aP r2 fun u=>?_
 refine Ev.val fun Q E hQ=>Ld hh fun h' tk k=>?_
 by_cases hc:a<b
 ·rw[if_pos hc];rw[if_pos hc] at hQ;exact hQ _ _ _ (.of_keeps k) (bB _ _) fun O=>trivial
 ·rw[if_neg hc];rw[if_neg hc] at hQ;exact hQ _ _ _ (.of_keeps k) (bB _ _) fun O=>trivial
end
set_option tactic.hygienic true in
theorem tj (c:Nat):∀ l,(ag c l).length<=l.length+1:=by
 intro z0
 induction z0 with
 | nil=>simp[fA,aS]
 | cons x r ih=>
  have ih:=ih
  rw[aS]
  split
  ·simpa using ih
  ·split
   ·simp
   ·rename_i e
    rw[e] at ih
    simp at ih ⊢
    lia
noncomputable def cuts (l:List Nat):List Nat->Nat->List (List Nat)
 | [],s=>[l.drop s]
 | p::ps,s=>(l.drop s).take (p - s)::cuts l ps (p+1)
theorem wA {l:List Nat}:cuts l [] s=([l.drop s]):=rfl
theorem mY {l:List Nat}:cuts l (p::ps) s=((l.drop s).take (p - s)::cuts l ps (p+1)):=rfl
theorem B2 (k:Nat) (l:List Nat):∀ (d s:Nat),s+d=l.length->cuts l ((List.range' s d).filter fun i=>decide (l[i]?=some k)) s=ag k (l.drop s):=by
 intro z0
 induction z0 with
 | zero=>
  intro s h
  rw[List.drop_eq_nil_of_le (by lia)]
  show [l.drop s]=[[]]
  rw[List.drop_eq_nil_of_le (by lia)]
 | succ d ih=>
  intro s h
  have hJ:s<l.length:=by lia
  have ih:=ih (s+1) (by lia)
  rw[List.range'_succ,List.drop_eq_getElem_cons hJ]
  by_cases hx:l[s]=k
  ·have:decide (l[s]?=some k)=true:=by simp[List.getElem?_eq_getElem hJ,hx]
   rw[List.filter_cons,if_pos this,aS,if_pos hx,mY,ih]
   simp
  ·have:¬ decide (l[s]?=some k)=true:=by simp[List.getElem?_eq_getElem hJ,hx]
   rw[List.filter_cons,if_neg this]
   have Yp:∀ q∈(List.range' (s+1) d).filter (fun i=>decide (l[i]?=some k)),s+1<=q:=fun q hq=>by
    have:=(List.mem_filter.mp hq).1
    rw[List.mem_range'_1] at this;exact this.1
   generalize (List.range' (s+1) d).filter (fun i=>decide (l[i]?=some k))=ps at ih Yp
   cases ps with
   | nil=>
    rw[wA] at ih ⊢
    rw[jE hx ih.symm,List.drop_eq_getElem_cons hJ]
   | cons q qs=>
    rw[mY] at ih ⊢
    have hq:=Yp q (.head _)
    rw[jE hx ih.symm,List.drop_eq_getElem_cons hJ]
    have:q - s=(q - (s+1))+1:=by lia
    rw[this,List.take_succ_cons]
theorem B3 (p:Nat->Bool):∀ (d s:Nat) (acc:List Nat) (free:Nat),free<=s->
  ((List.range' s d).foldl (fun (acc:List Nat × Nat) i=>if (decide (i ≥ acc.2)&&p i)=true then (i::acc.1,i+1) else acc) (acc,free)).1.reverse=acc.reverse++(List.range' s d).filter p:=by
 intro z0
 induction z0 with
 | zero=>
  intro s acc free h
  simp
 | succ d ih=>
  intro s acc free h
  rw[List.range'_succ,List.foldl_cons,List.filter_cons]
  have h1:decide (s ≥ free)=true:=by simpa using h
  cases hp:p s with
  | true=>
   rw[if_pos (by rw[h1];rfl),if_pos rfl,ih (s+1) (s::acc) (s+1) (Nat.le_refl _)]
   simp
  | false=>
   rw[if_neg (by rw[h1];decide),if_neg (by decide),ih (s+1) acc free (by lia)]
theorem Dv (b:Array UInt8) (k:UInt8) (l:List Nat) (e:b.toList.map UInt8.toNat=l):Bytes.occurrences b #[k] 0 b.size=(List.range' 0 l.length).filter fun i=>decide (l[i]?=some k.toNat):=by
 have hl:=a8 e
 unfold Bytes.occurrences
 have e1:(List.range (b.size+1 - (0+(#[k]:Array UInt8).size))).map (·+0)=List.range' 0 l.length:=by
  rw[show (#[k]:Array UInt8).size=1 from rfl,show b.size+1 - (0+1)=l.length by lia,<- List.range_eq_range'];simp
 rw[e1]
 have:=B3 (fun i=>b.extract i (i+1) == #[k]) l.length 0 [] 0 (Nat.le_refl _)
 rw[oj b k l e] at this
 exact Eq.trans rfl (this.trans (by simp))
theorem iG (b:Array UInt8) (l:List Nat) (e:b.toList.map UInt8.toNat=l) (ps:List Nat):(Bytes.between b 1 ps).map (fun p=>p.toList.map UInt8.toNat)=cuts l ps 0:=by
 have go:∀ (ps:List Nat) (parts:Array (Array UInt8)) (s:Nat),
   (let r:=ps.foldl (fun (parts,last) p=>(parts.push (b.extract last p),p+1)) (parts,s);(r.1.push (b.extract r.2 b.size)).toList).map (fun p=>p.toList.map UInt8.toNat)=parts.toList.map (fun p=>p.toList.map UInt8.toNat)++cuts l ps s:=by
  intro ps
  induction ps with
  | nil=>
   intro parts s
   simp only[List.foldl_nil,Array.toList_push,List.map_append,List.map_cons,List.map_nil,wA,mY]
   congr 2
   rw[Array.toList_extract,List.extract_eq_drop_take,<- e,List.map_take,List.map_drop]
   rw[List.take_of_length_le (by simp)]
  | cons p ps ih=>
   intro parts s
   rw[List.foldl_cons,ih,mY]
   simp only[Array.toList_push,List.map_append,List.map_cons,List.map_nil,List.append_assoc,List.singleton_append]
   congr 2
   rw[Array.toList_extract,List.extract_eq_drop_take,<- e,List.map_take,List.map_drop]
 have:=go ps #[] 0
 simpa [Bytes.between] using this
theorem y3 (b:Array UInt8) (k:UInt8) (l:List Nat) (e:b.toList.map UInt8.toNat=l):(Bytes.between b 1 (Bytes.occurrences b #[k] 0 b.size)).map (fun p=>p.toList.map UInt8.toNat)=ag k.toNat l:=by
 rw[iG b l e,Dv b k l e,B2 k.toNat l l.length 0 (by lia)]
 rfl
section
variable {prog:Program}{w:World}{base:Heap}{cl:dB->Value}{A:Around}{X:Addr->Prop}{s:Shared}
theorem B4 {g:Addr->Obj->Prop}{E:Value->Shared->Prop}:∀ (l:List (Array UInt8)) (s:Shared) (Q:List Value->Shared->Prop),(∀ p∈l,p.size<=16777216)->
  (∀ vs tk,ay g (l.map fun p=>.bytes (p.toList.map UInt8.toNat)) vs->Q vs { s with toks:=tk })->wpAny (model prog w) A (l.mapM (Bytes.Kind.new .bytes)) Q E s:=by
 intro z0
 induction z0 with
 | nil=>
  intro s Q _ hQ
  rw[List.mapM_nil];exact wpAny_pure (hQ [] s.toks .nil)
 | cons p r ih=>
  intro s Q hs hQ
  rw[List.mapM_cons]
  refine wpAny_bind (m:=Bytes.Kind.new .bytes p) ?_
  show wpAny _ _ (mkBytes p) _ _ s
  have hp:=hs p (.head _)
  refine wpAny_mkBytes ?_ (by have:=bu;lia)
  refine wpAny_bind (ih { s with toks:=s.toks+1 } _ (fun z hz=>hs z (.tail _ hz)) fun vs tk rv=>wpAny_pure (hQ _ _ (.cons (by exact⟨p,s.toks,rfl,rfl,by simpa using hp⟩) rv)))
theorem wB (b:Array UInt8) (l:List Nat) (e:b.toList.map UInt8.toNat=l) (ps:List Nat):∀ p∈Bytes.between b 1 ps,p.size<=b.size:=fun p hp=>by
 have h1:p.toList.map UInt8.toNat∈cuts l ps 0:=by rw[<- iG b l e];exact List.mem_map_of_mem hp
 have hc:∀ (ps:List Nat) (s:Nat),∀ z∈cuts l ps s,z.length<=l.length:=by
  intro ps
  induction ps with
  | nil=>intro s z hz;simp[wA] at hz;subst hz;simp
  | cons q qs ih=>
   intro s z hz
   rw[mY] at hz
   rcases List.mem_cons.mp hz with rfl | hz
   ·simp;omega
   ·exact ih _ z hz
 have:=hc ps 0 _ h1
 have hl:=a8 e
 simp at this;omega
set_option tactic.hygienic true in
theorem y4 (hX:ni X s.heap) {l:List Nat}{v:Value}{ds:List V}{vs:List Value} (r:Rep (seen X s.heap) (.bytes l) v) (rs:ay (seen X s.heap) ds vs):Ev prog w base cl A X false (call (.builtin "bytes.split") (v::vs) []) s (bq .split (.bytes l::ds)):=by
 cases ds with
 | nil=>exact .stuck
 | cons d rest=>
  cases d<;>cases rest<;>try exact .stuck
  case bytes.cons m _ _=>cases m with
   | nil=>exact .stuck
   | cons c m=>cases m<;>exact .stuck
  rename_i m
  cases m with
  | nil=>exact .stuck
  | cons c m=>
   cases m with
   | cons _ _=>exact .stuck
   | nil=>
    refine Exists.elim (ew rs) fun u zz=>aB zz fun av r1=>?_;clear zz;subst av
    refine bT (ef r) fun y t zz=>b5 zz fun av e hl=>?_;clear zz;subst av
    refine bT (ef r1) fun z t2 zz=>b5 zz fun av e2 O=>?_;clear zz;subst av
    refine Exists.elim (mJ e2) fun k zz=>aB zz fun av gQ=>?_;clear zz;subst av;subst gQ
    show Ev prog w base cl A X false _ s (R.guard (decide (l.length<=lim)) (.ok (.list ((ag k.toNat l).map V.bytes))))
    refine Ev.guard fun hg=>?_
    simp only[decide_eq_true_eq] at hg
    have hlen:=a8 e
    have hline:=bu
    have j3:lim+1<=16777216:=by decide
    intro Q E p _
    refine wpAny_call_entry FY.eN (W.typeIs_bytes s y t) FY.mU ?_ (FY.lH _ _)
    unfold «bytes.split» Bytes.splitM
    refine wpAny_bind (wpAny_of_eq (a:=[some (Value.bytes #[k] t2),none]) rfl ?_)
    refine wpAny_bind (wpAny_of_eq (a:=(-1:Int)) rfl ?_)
    refine wpAny_bind (wpAny_of_eq (a:=y) rfl ?_)
    refine wpAny_bind (m:=Bytes.bytesLike _ _) ?_
    refine wpAny_bind (wpAny_of_eq KBy.buffer_eq (wpAny_pure ?_))
    have GB:=y3 y k l e
    have Xg:(Bytes.occurrences y #[k] 0 y.size).length<=y.size+1:=by
     rw[Dv y k l e]
     have:=List.length_filter_le (fun i=>decide (l[i]?=some k.toNat)) (List.range' 0 l.length)
     rw[List.length_range'] at this
     lia
    have zr:(if false=true then Bytes.occurrencesFromRight y #[k] (if (-1:Int)<0 then y.size+1 else (-1:Int).toNat) else List.take (if (-1:Int)<0 then y.size+1 else (-1:Int).toNat) (Bytes.occurrences y #[k] 0 y.size))=Bytes.occurrences y #[k] 0 y.size:=by
     rw[if_neg (by decide),if_pos (by decide)];exact List.take_of_length_le Xg
    rw[if_neg (show ¬ ((#[k]:Array UInt8).isEmpty=true) by simp),zr]
    have Jr:(ag k.toNat l).length<=16777216:=by
     have:=tj k.toNat l
     lia
    by_cases he:(Bytes.occurrences y #[k] 0 y.size).isEmpty=true
    ·rw[if_pos he]
     have h0:Bytes.occurrences y #[k] 0 y.size=[]:=List.isEmpty_iff.mp he
     rw[h0] at GB
     have h1:ag k.toNat l=[l]:=by
      rw[<- GB,iG y l e];rfl
     refine wpAny_bind (wpAny_rule (wpAny_bind (wpAny_of_eq (a:=Value.bytes y t) rfl (wpAny_bind (wpAny_newList ?_ (by show 1<=sizeLine;decide))))))
     refine wpAny_pure ⟨_,rfl,?_⟩
     rw[h1] at p
     exact gD p (by simp) hX (by simpa using (ay.cons r .nil)) s.toks
    ·rw[if_neg he]
     refine wpAny_bind (B4 (g:=seen X s.heap) _ s _ (fun q hq=>Nat.le_trans (wB y l e _ q hq) (by lia)) fun vs tk rv=>?_)
     have e3:(Bytes.between y (#[k]:Array UInt8).size (Bytes.occurrences y #[k] 0 y.size)).map (fun p=>V.bytes (p.toList.map UInt8.toNat))=(ag k.toNat l).map V.bytes:=by
      rw[<- GB,List.map_map];rfl
     rw[e3] at rv
     have si:=rv.length
     rw[List.length_map] at si
     refine wpAny_bind (wpAny_newList ?_ (by lia))
     refine wpAny_pure ⟨_,rfl,?_⟩
     exact gD p (by simpa using Jr) hX (by simpa using rv) tk
end
noncomputable def eP (i:Int):Bool:=decide (0<=i)&&decide (i<256)
section
variable {prog:Program}{w:World}{base:Heap}{A:Around}{s₀:Shared}{h₀:Heap}
theorem Lg {R:Result->Shared->Prop}{l I S:Addr}{vs:List Value}{ns:List Int} (hh:cy A h₀) (hi:IntsAre vs ns) (hz:ns.length<=sizeLine) (nI:h₀.get? I=none) (nS:h₀.get? S=none) (S9:I≠S) (Vl:h₀.IsList l vs.toArray)
  (Im:ns.all eP=true->∀ h' t k,Kept base h₀ h'->R (.ok (.ret (.bytes (byteArr ns) t))) { s₀ with heap:=h',toks:=k })
  (Sh:ns.all eP=false->∀ e h' k,Kept base h₀ h'->ExcAt false h₀ (.type "ValueError") e h'->R (.error (.ref e)) { s₀ with heap:=h',toks:=k }) :
  ∀ (rest done:List Int) (h:Heap) (k:Nat),ns=done++rest->done.all eP=true->Kept base h₀ h->h.IsListIter I l done.length->h.get? S=some { cls:=.type "bytearray",data:=.bytearray (byteArr done) }->
   codeAny (model prog w) A (.builtin "bytes.__new__.loop" ⟨[.type "bytes",.ref I,.ref S],[]⟩) R { s₀ with heap:=h,toks:=k }:=by
 have si:vs.length=ns.length:=hi.length
 have lst:∀ {h},Kept base h₀ h->h.IsList l vs.toArray:=fun kp=>by
  obtain⟨o,e,c,n,d⟩:=Vl
  exact⟨o,kp.get e (cC d),c,n,d⟩
 intro rest
 induction rest with
 | nil=>
  intro done h k hn hd kp hit hS
  rw[List.append_nil] at hn
  subst hn
  refine codeAny_builtin F.bm_entry_loop ?_
  rw[Around.under_plainId F.bm_plain_loop _]
  show wpAny _ A.in1 (pyNext (.ref I) >>= _) _ _ _
  refine wpAny_bind (kF (A:=A.in1) (s:={ s₀ with heap:=h,toks:=k }) (hh.kept kp) hit (lst kp) (by simp[si]) fun h' he=>?_)
  have Vm:=he S _ (Ne.symm S9) hS
  refine wpAny_bind ?_
  unfold Builtin.Bytes.payload Builtin.Bytes.payload?
  refine wpAny_bind (wpAny_bind (wpAny_load (s:={ s₀ with heap:=h',toks:=k }) Vm ?_))
  refine wpAny_pure (wpAny_pure ?_)
  refine wpAny_bind (wpAny_mkBytes ?_ (by rw[byteArr_size];exact hz))
  show wpAny _ _ (if (Value.type "bytes" == Value.type "bytes")=true then _ else _) _ _ _
  refine bm_if_true (by decide) ?_
  have fin:=Im hd h' k (k+1) (kp.extBut nI he)
  first
   | exact wpAny_pure fin
   | exact wpAny_bind (wpAny_pure (wpAny_pure fin))
 | cons x rest ih=>
  intro done h k hn hd kp hit hS
  have hx:ns[done.length]?=some x:=by rw[hn];simp
  have hJ:done.length<vs.length:=by rw[si,hn];simp
  refine bT (IntsAre.at hi done.length vs[done.length] (List.getElem?_eq_getElem hJ)) fun n t zz=>aB zz fun hv V7=>?_
  rw[hx] at V7
  obtain rfl:=Option.some.inj V7
  refine codeAny_builtin F.bm_entry_loop ?_
  rw[Around.under_plainId F.bm_plain_loop _]
  show wpAny _ A.in1 (pyNext (.ref I) >>= _) _ _ _
  refine wpAny_bind (wpAny_pyNext_list_item (s:={ s₀ with heap:=h,toks:=k }) (x:=.int x t) hit (lst kp) (by rw[List.getElem?_toArray,List.getElem?_eq_getElem hJ,hv]) fun h' Sf hs=>?_)
  have V9:=kp.extBut nI hs.extBut
  have Vm:=(hs.2 S (Ne.symm S9)).trans hS
  refine wpAny_bind (wpAny_holding (wpAny_of_eq (rfl:asIndex (.int x t)=pure x) ?_))
  refine wpAny_bind (wpAny_letGo ?_)
  by_cases s7:eP x=true
  ·unfold eP at s7
   simp only[Bool.and_eq_true,decide_eq_true_eq] at s7
   refine bm_if_false (by simp only[Bool.or_eq_false_iff,decide_eq_false_iff_not];lia) ?_
   refine wpAny_bind ?_
   show wpAny _ _ (updateBytearray S (·.push x.toNat.toUInt8)) _ _ _
   unfold updateBytearray
   refine wpAny_bind (wpAny_load (s:={ s₀ with heap:=h',toks:=k }) Vm ?_)
   show wpAny _ _ (update S (Obj.mapBytearray (·.push x.toNat.toUInt8)) >>= fun O=>lookBehind S) _ _ _
   refine wpAny_bind (wpAny_update (s:={ s₀ with heap:=h',toks:=k }) Vm ?_)
   have e2:byteArr (done++[x])=(byteArr done).push x.toNat.toUInt8:=by unfold byteArr;simp
   have Qw:(h'.update S (Obj.mapBytearray (·.push x.toNat.toUInt8))).get? S=some { cls:=.type "bytearray",data:=.bytearray (byteArr (done++[x])) }:=by
    rw[e2]
    exact Heap.get?_update_self (Obj.mapBytearray (·.push x.toNat.toUInt8)) Vm rfl
   have hlen:(done++[x]).length<=ns.length:=by rw[hn];simp
   refine wpAny_lookBehind (s:={ s₀ with heap:=h'.update S (Obj.mapBytearray (·.push x.toNat.toUInt8)),toks:=k }) Qw ?_ ?_
   ·show (if (byteArr (done++[x])).size > sizeLine then some "bytearray:memory" else none)=none
    rw[if_neg]
    rw[byteArr_size]
    lia
   ·refine wpAny_pure ⟨plainId_quiet F.bm_plain_loop _,ih (done++[x]) _ k (by rw[hn];simp) ?_ (V9.extBut nS (Heap.SameBut.update ..).extBut) ?_ Qw⟩
    ·rw[List.all_append,hd]
     show (true&&(eP x&&true))=true
     unfold eP
     simp;lia
    ·have:=Sf.extBut (Heap.SameBut.update (f:=Obj.mapBytearray (·.push x.toNat.toUInt8)) (h:=h') (a:=S) ..).extBut S9
     simpa using this
  ·refine bm_if_true ?_ ?_
   ·unfold eP at s7
    simp only[Bool.and_eq_true,decide_eq_true_eq,not_and] at s7
    simp only[Bool.or_eq_true,decide_eq_true_eq]
    lia
   ·have qP:ns.all eP=false:=by
     rw[hn,List.all_append]
     simp[s7]
    refine wpAny_bind (wpAny_rule (wpAny_bind (my (base:=base) (A:=A.in1) (s:={ s₀ with heap:=h',toks:=k }) (hh.kept V9) first_value Hh (by decide) (by decide) fun e aD tk Vn hx=>?_)))
    exact Sh qP e aD tk (V9.trans Vn) (hx.elder V9)
end
section
variable {prog:Program}{w:World}{base:Heap}{A:Around}{s:Shared}
theorem HG {l:Addr}{vs:List Value}{ns:List Int}{R:Result->Shared->Prop} (hh:cy A s.heap) (hl:s.heap.IsList l vs.toArray) (hi:IntsAre vs ns) (hz:ns.length<=sizeLine)
  (Im:ns.all eP=true->∀ h' t k,Kept base s.heap h'->R (.ok (.ret (.bytes (byteArr ns) t))) { s with heap:=h',toks:=k })
  (Sh:ns.all eP=false->∀ e h' k,Kept base s.heap h'->ExcAt false s.heap (.type "ValueError") e h'->R (.error (.ref e)) { s with heap:=h',toks:=k }) :
  codeAny (model prog w) A (.call (.builtin "bytes.__new__") ⟨[.type "bytes",.ref l],[]⟩) R s:=by
 refine codeAny_of_tree ?_
 show wpAny _ A.in1 (do checkBuiltinCall "bytes.__new__" ⟨[.type "bytes",.ref l],[]⟩;again (.builtin "bytes.__new__" ⟨[.type "bytes",.ref l],[]⟩)) _ _ s
 refine wpAny_bind (wpAny_of_eq (F.bm_newCall _) (wpAny_pure ⟨plainId_quiet F.bm_plain _,codeAny_builtin F.bm_entry ?_⟩))
 rw[Around.under_plainId F.bm_plain _]
 have hT:s.TypeIs (.ref l) "list":=hl.typeIs
 obtain⟨ol,Uw,X9,nl,Z5⟩:=id hl
 generalize Qk:s.heap.push { cls:=.type "list_iterator",data:=.fields #[.ref l,.int 0 0] }=H1
 generalize Ql:H1.push { cls:=.type "bytearray",data:=.bytearray #[] }=H2
 have k1:Kept base s.heap H1:=Qk ▸ Kept.push _ _ _
 have k2:Kept base H1 H2:=Ql ▸ Kept.push _ _ _
 have S9:s.heap.objs.size<H1.objs.size:=by rw[<- Qk,Heap.size_push];lia
 have main:=Lg (prog:=prog) (w:=w) (base:=base) (A:=A) (s₀:=s) (h₀:=s.heap) (R:=R) (l:=l) (I:=s.heap.objs.size) (S:=H1.objs.size) hh hi hz (bS _) (Heap.get?_none_of_le (Nat.le_of_lt S9)) (Nat.ne_of_lt S9) hl Im Sh
  ns [] H2 s.toks rfl rfl (k1.trans k2) ⟨_,Ql ▸ Heap.get?_push_of_some _ (Qk ▸ Heap.get?_push_size _ rfl),rfl,rfl⟩ (Ql ▸ Heap.get?_push_size _ rfl)
 unfold Builtin.«bytes.__new__»
 refine wpAny_bind (wpAny_of_eq (a:=true) rfl ?_)
 refine bm_if_false rfl ?_
 refine wpAny_bind (wpAny_of_eq F.bm_sub ?_)
 refine bm_if_false rfl ?_
 refine wpAny_bind (wpAny_of_eq (F.bm_bind _) ?_)
 refine wpAny_bind (wpAny_of_eq (a:=()) rfl ?_)
 refine wpAny_bind (wpAny_of_eq (a:=()) rfl ?_)
 refine bm_if_false rfl ?_
 refine wpAny_bind (wpAny_specialOf hT F.bm_no_bytes ?_)
 refine wpAny_bind (wpAny_bind ?_)
 show wpAny _ _ (load l >>= _) _ _ _
 refine wpAny_bind (wpAny_load Uw ?_)
 rw[Z5]
 refine wpAny_pure (wpAny_pure ?_)
 refine bm_if_false rfl ?_
 refine wpAny_bind (wpAny_specialOf hT F.bm_no_index ?_)
 refine bm_if_true rfl ?_
 first
  | show wpAny _ _ (Builtin.Bytes.buffer? "bytes.__new__" (.ref l) true >>= _) _ _ _
  | (refine wpAny_bind ?_;show wpAny _ _ (Builtin.Bytes.buffer? "bytes.__new__" (.ref l) true >>= _) _ _ _)
 refine wpAny_bind ?_
 unfold Builtin.Bytes.buffer?
 refine wpAny_bind (wpAny_specialOf hT F.bm_no_buffer ?_)
 refine wpAny_bind (wpAny_specialOf hT F.bm_no_buffer ?_)
 refine wpAny_pure ?_
 refine wpAny_bind (wpAny_tryCatch (wpAny_pyIter_list hl ?_))
 rw[Qk]
 have Qx:({ s with heap:=H1 }:Shared).TypeIs (.ref l) "list":=by
  refine Exists.elim (id hl) fun o zz=>b5 zz fun e c O=>?_
  exact⟨o,Qk ▸ Heap.get?_push_of_some _ e,c⟩
 refine wpAny_bind (wpAny_holding ?_)
 refine wpAny_bind (wpAny_specialOf Qx slot_list_len.lookup ?_)
 dsimp only
 rw[F.bm_split]
 refine wpAny_bind (wpAny_isInstance Qx F.bm_sub_list ?_)
 refine bm_if_false rfl ?_
 refine bm_if_true (by decide +kernel) ?_
 refine wpAny_pure ?_
 refine wpAny_bind ?_
 refine wpAny_newObj_type ?_ (Nat.zero_le _)
 rw[Ql]
 first
  | exact wpAny_pure ⟨plainId_quiet F.bm_plain_loop _,main⟩
  | exact wpAny_pure (wpAny_pure ⟨plainId_quiet F.bm_plain_loop _,main⟩)
theorem ints_of {g:Addr->Obj->Prop}:∀ {xs:List V}{ns:List Int}{vs:List Value},eF xs=some ns->ay g xs vs->IntsAre vs ns/\vs.length=ns.length:=by
 intro z0
 induction z0 with
 | nil=>
  intro ns vs h r
  skip;subst r;injection h with h;subst h;exact⟨.nil,rfl⟩
 | cons d xs ih=>
  intro ns vs h r
  refine bT r fun v r' zz=>b5 zz fun av r1 r2=>?_;clear zz;try clear r;subst av
  cases d<;>first | (contradiction;done) | skip
  rw[ql] at h
  cases q:eF xs with
  | none=>rw[q] at h;contradiction
  | some zs=>
   rw[q] at h;injection h with h;subst h
   refine aB (ih q r2) fun i1 i2=>?_
   refine aP r1 fun t=>?_
   exact⟨.cons _ _ i1,by simp[i2]⟩
end
section
variable {prog:Program}{w:World}{base:Heap}{cl:dB->Value}{A:Around}{X:Addr->Prop}{s:Shared}
theorem sm {v:Value}{Q E:Value->Shared->Prop}
  (Oh:codeAny (model prog w) A.in1 (.call (.builtin "bytes.__new__") ⟨[.type "bytes",v],[]⟩) (wants (fun obj s₁=>s₁.TypeIs obj "bytes"/\Q obj s₁) E) s):wpAny (model prog w) A (call (.type "bytes") [v]) Q E s:=
 callType_codes (Q₁:=fun obj s₁=>s₁.TypeIs obj "bytes"/\Q obj s₁) F.bm_called (F.bm_typeCall _) F.entry_object_init Oh fun obj s₁ ai=>
  ⟨ai.1,F.args_object_init_2 obj _,object_init_meets F.bm_called.init.lookup F.bm_called.made (by decide) prog w A.in1 _ s₁ ⟨ai.1,rfl,ai.2⟩⟩
theorem bytes_list (Hz:cl .value=.type "ValueError") (hh:cy A s.heap) {xs:List V}{v:Value} (r:Rep (seen X s.heap) (.list xs) v):Ev prog w base cl A X false (call (.type "bytes") [v]) s (bq .bytes [.list xs]):=by
 refine dQ r fun a dd sl vs nn hX ha hlen rl=>?_
 show Ev prog w base cl A X false _ s (match eF xs with | some is=>if is.all eP then .ok (.bytes (is.map Int.toNat)) else R.guard (is.all fun i=>decide (0<=i)) (.exc .value) | none=>.stuck)
 cases q:eF xs with
 | none=>exact .stuck
 | some is=>
  refine aB (ints_of q rl) fun hi si=>?_
  have hline:=bu
  have AX:=rl.length
  intro Q E p aq
  dsimp only at p aq
  refine sm (HG (A:=A.in1) (base:=base) (vs:=vs.toList) hh (by simpa using bF ha) hi (by lia) (fun Im h' t k kp=>?_) fun Im e h' k kp hx=>?_)
  ·rw[if_pos Im] at p
   refine⟨rfl,p.ok _ _ h' k rfl kp (dF t ?_ ?_) fun q=>by contradiction⟩
   ·unfold byteArr
    simp only[List.map_map]
    refine List.map_congr_left fun i hi=>?_
    have:=List.all_eq_true.mp Im i hi
    unfold eP at this
    simp only[Bool.and_eq_true,decide_eq_true_eq] at this
    show (i.toNat.toUInt8).toNat=i.toNat
    rw[Nat.toUInt8_eq,UInt8.toNat_ofNat']
    lia
   ·rw[List.length_map];lia
  ·rw[Im] at p aq
   have hg:=R.mK aq
   rw[if_neg (by decide),R.guard,hg,if_pos rfl] at p
   exact p.ex .value e h' k rfl kp (by rw[Hz];exact hx)
end
theorem O1 {id:String}{b:Array UInt8}{t:Tok}:Bytes.takeBufferQuiet? id (.bytes b t) 0=pure (some (b,none)):=by
 have e:Bytes.takeBuffer? id (.bytes b t) 0=pure (some (b,none)):=by
  unfold Bytes.takeBuffer?
  rw[KBy.special_eq KBy.look_buffer,KBy.own_buffer]
  have hb:Bytes.buffer? id (.bytes b t) (0 == Bytes.fullReadOnly)=pure (some b):=by
   rw[show ((0:Int) == Bytes.fullReadOnly)=false by decide];exact KBy.buffer_eq
  show (Bytes.buffer? id (.bytes b t) (0 == Bytes.fullReadOnly) >>= _)=_
  rw[hb];rfl
 unfold Bytes.takeBufferQuiet?
 rw[e]
 rfl
theorem O2 {j:Type}{M:Model}{A:Around}{E:Value->Shared->Prop}{s:Shared}{f:Nat->j->Sem (ForInStep j)} (P:Nat->Nat->j->Prop) (next:Nat->j->j) (h:∀ i k st,P i (k+1) st->wpAny M A (f i st) (fun r s'=>r=.yield (next i st)/\s'=s) E s/\P (i+1) k (next i st)) :
  ∀ (k i:Nat) (st:j) (Q:j->Shared->Prop),P i k st->(∀ mQ,P (i+k) 0 mQ->Q mQ s)->wpAny M A (forIn (List.range' i k) st f) Q E s:=by
 intro z0
 induction z0 with
 | zero=>
  exact fun i st Q hp hQ=>wpAny_pure (hQ st hp)
 | succ k ih=>
  intro i st Q hp hQ
  refine aB (h i k st hp) fun h1 h2=>?_
  rw[List.range'_succ,List.forIn_cons]
  refine wpAny_bind (wpAny_mono h1 (fun r s' hr=>?_) fun O O e=>e)
  refine aB hr fun av gQ=>?_;try clear hr;subst av;subst gQ
  exact ih (i+1) (next i st) Q h2 fun mQ TC=>hQ mQ (by rw[show i+(k+1)=i+1+k by lia];exact TC)
noncomputable def pj (l:List (Array UInt8 × Tok)):List Value:=l.map fun p=>.bytes p.1 p.2
theorem HJ {prog:Program}{w:World}{A:Around}{s:Shared}{E:Value->Shared->Prop}:∀ (l:List (Array UInt8 × Tok)) (keep:List Value) (Q:Unit->Shared->Prop),Q () s->wpAny (model prog w) A (Bytes.joinLetGo (l.map fun p=>(Value.bytes p.1 p.2,none)) keep) Q E s:=by
 intro z0
 induction z0 with
 | nil=>
  exact fun keep Q h=>wpAny_pure h
 | cons p r ih=>
  intro keep Q h
  show wpAny _ _ (letGo _ _ >>= fun O=>Bytes.joinLetGo _ _) _ _ _
  exact wpAny_bind (wpAny_letGo (ih keep Q h))
theorem HK {prog:Program}{w:World}{A:Around}{s:Shared}{sep:Array UInt8}{t:Tok}{a:Addr}{o:Obj}{bP di:Array UInt8 × Tok}{r:List (Array UInt8 × Tok)}{n:Nat}{Q:PySem.Fin->Shared->Prop}{E:Value->Shared->Prop} (ha:s.heap.get? a=some o) (hc:o.cls=.type "list") (hd:o.data=.seq ⟨pj (bP::di::r)⟩ n)
  (j4:(Bytes.joined sep ((bP::di::r).map (·.1))).size<=sizeLine) (Vo:Bytes.tooLong (((bP::di::r).map (·.1)).toArray.foldl (·+·.size) (sep.size*(((bP::di::r).map (·.1)).toArray.size - 1)))=false)
  (hQ:Q (.done (.ret (.bytes (Bytes.joined sep ((bP::di::r).map (·.1))) s.toks))) { s with toks:=s.toks+1 }) :
  wpAny (model prog w) A («bytes.join» ⟨[.bytes sep t,.ref a],[]⟩) Q E s:=by
 have hT:s.TypeIs (.ref a) "list":=⟨o,ha,hc⟩
 unfold «bytes.join» Bytes.joinM
 refine wpAny_bind (wpAny_of_eq (a:=(Value.bytes sep t,Value.ref a)) rfl ?_)
 refine wpAny_bind (m:=Bytes.joinItems (.ref a)) ?_
 refine wpAny_bind (wpAny_typeOf hT ?_)
 rw[if_pos (show (Value.type "list" == Value.type "list"||Value.type "list" == Value.type "tuple")=true from rfl)]
 refine wpAny_pure ?_
 refine wpAny_bind (wpAny_seqItems ha hd ?_)
 dsimp only
 rw[if_pos (show (Bytes.Kind.bytes == Bytes.Kind.bytes)=true from rfl)]
 show wpAny _ _ (forIn _ _ _ >>= _) _ _ _
 rw[Std.Legacy.Range.forIn_eq_forIn_range']
 generalize hl:bP::di::r=l at *
 have hn:(⟨pj l⟩:Array Value).size=l.length:=by simp[pj]
 refine wpAny_bind (O2 (s:=s) (fun i k st=>i+k=l.length/\st=(((l.take i).map (·.1)).toArray,(l.take i).map fun p=>(Value.bytes p.1 p.2,none)))
  (fun i st=>(st.1.push ((l.getD i bP).1),st.2++[(Value.bytes (l.getD i bP).1 (l.getD i bP).2,none)])) (fun i k st hp=>⟨?_,?_⟩) _ 0 (#[],[]) _ ⟨?_,rfl⟩ fun st hp=>?_)
 ·refine aB hp fun Z6 av=>?_;try clear hp;subst av
  have hJ:i<l.length:=by lia
  have Ud:l.getD i bP=l[i]:=by simp[List.getD,hJ]
  have hit:(⟨pj l⟩:Array Value).getD i Value.none=Value.bytes l[i].1 l[i].2:=by
   simp[pj,Array.getD,hJ]
  refine wpAny_bind (wpAny_seqItems ha hd ?_)
  dsimp only
  rw[if_neg (by
   have:(List.map (fun p:Array UInt8 × Tok=>(Value.bytes p.1 p.2,(none:Option Value))) (l.take i)).any (fun x=>x.1.onHeap)=false:=by
    rw[List.any_map,List.any_eq_false];exact fun x O=>Bool.false_ne_true
   rw[this];decide)]
  rw[hit]
  refine wpAny_bind (wpAny_holding (wpAny_of_eq O1 ?_))
  refine wpAny_bind (wpAny_seqItems ha hd ?_)
  dsimp only
  rw[if_neg (by simp)]
  refine wpAny_pure ⟨?_,rfl⟩
  rw[Ud]
 ·refine aB hp fun Z6 av=>?_;try clear hp;subst av
  have hJ:i<l.length:=by lia
  have Ud:l.getD i bP=l[i]:=by simp[List.getD,hJ]
  refine⟨by lia,?_⟩
  rw[Ud]
  have ht:l.take (i+1)=l.take i++[l[i]]:=by rw[List.take_succ,List.getElem?_eq_getElem hJ];rfl
  rw[ht]
  simp only[List.map_append,List.map_cons,List.map_nil,List.push_toArray]
 ·simp[Std.Legacy.Range.size,hn]
 ·refine aB hp fun hk av=>?_;try clear hp;subst av
  have Vp:l.take (0+[:(⟨pj l⟩:Array Value).size].size)=l:=List.take_of_length_le (by simp[Std.Legacy.Range.size,hn])
  rw[Vp]
  refine wpAny_bind (wpAny_of_eq (a:=sep) rfl ?_)
  rw[if_neg (by rw[Vo];decide)]
  refine wpAny_bind (m:=Bytes.Kind.new .bytes _) ?_
  show wpAny _ _ (mkBytes _) _ _ _
  refine wpAny_mkBytes ?_ (by simpa using j4)
  refine wpAny_bind (wpAny_holding (wpAny_point ?_))
  refine wpAny_bind (HJ l _ _ ?_)
  exact wpAny_pure (by simpa using hQ)
theorem HL (sep:Array UInt8):∀ (l:List (Array UInt8)) (i:Nat) (acc:Array UInt8),0<i->((l.zipIdx i).foldl (fun out (p,i)=>(if i > 0 then out++sep else out)++p) acc).toList.map UInt8.toNat=acc.toList.map UInt8.toNat++(l.map fun p=>sep.toList.map UInt8.toNat++p.toList.map UInt8.toNat).flatten:=by
 intro z0
 induction z0 with
 | nil=>
  intro i acc h
  simp
 | cons p r ih=>
  intro i acc h
  rw[List.zipIdx_cons,List.foldl_cons,ih (i+1) _ (by lia)]
  dsimp only
  rw[if_pos (show i > 0 from h)]
  simp
theorem sr (sep:List Nat):∀ (p:List Nat) (r:List (List Nat)),a9 sep (p::r)=p++(r.map fun q=>sep++q).flatten
 | p,[]=>by simp[de,cg,aX]
 | p,q::r=>by
  rw[aX,sr sep q r]
  simp
theorem HM (sep:Array UInt8) (l:List (Array UInt8)):(Bytes.joined sep l).toList.map UInt8.toNat=a9 (sep.toList.map UInt8.toNat) (l.map fun p=>p.toList.map UInt8.toNat):=by
 cases l with
 | nil=>rfl
 | cons p r=>
  unfold Bytes.joined
  rw[List.zipIdx_cons,List.foldl_cons,HL sep r (0+1) _ (by lia),List.map_cons,sr,List.map_map]
  simp[Function.comp_def]
theorem B5:∀ (l:List (Array UInt8)) (k:Nat),l.foldl (·+·.size) k=k+bf (l.map fun p=>p.toList.map UInt8.toNat):=by
 intro z0
 induction z0 with
 | nil=>
  intro k
  simp[cM,bj]
 | cons p r ih=>
  intro k
  rw[List.foldl_cons,ih]
  simp only[List.map_cons,cM,bj,List.length_map,Array.length_toList]
  lia
theorem Lh {g:Addr->Obj->Prop}:∀ {xs:List V}{ys:List (List Nat)}{vs:List Value},fq xs=some ys->ay g xs vs->∃ l:List (Array UInt8 × Tok),vs=pj l/\(l.map fun p=>p.1.toList.map UInt8.toNat)=ys:=by
 intro z0
 induction z0 with
 | nil=>
  intro ys vs h r
  skip;subst r;injection h with h;subst h;exact⟨[],rfl,rfl⟩
 | cons d xs ih=>
  intro ys vs h r
  refine bT r fun v r' zz=>b5 zz fun av r1 r2=>?_;clear zz;try clear r;subst av
  cases d<;>first | (contradiction;done) | skip
  rw[qj] at h
  cases q:fq xs with
  | none=>rw[q] at h;contradiction
  | some zs=>
   rw[q] at h;injection h with h;subst h
   refine Exists.elim (ih q r2) fun l zz=>aB zz fun av gQ=>?_;clear zz;subst av;subst gQ
   refine aT r1 fun y t gQ O=>?_;subst gQ
   exact⟨(y,t)::l,rfl,rfl⟩
section
variable {prog:Program}{w:World}{base:Heap}{cl:dB->Value}{A:Around}{X:Addr->Prop}{s:Shared}
set_option tactic.hygienic true in
theorem B6 (hX:ni X s.heap) {l:List Nat}{v:Value}{ds:List V}{vs:List Value} (r:Rep (seen X s.heap) (.bytes l) v) (rs:ay (seen X s.heap) ds vs):Ev prog w base cl A X false (call (.builtin "bytes.join") (v::vs) []) s (bq .join (.bytes l::ds)):=by
 cases ds with
 | nil=>exact .stuck
 | cons d rest=>
  cases d<;>cases rest<;>try exact .stuck
  rename_i xs
  refine Exists.elim (ew rs) fun u zz=>aB zz fun av r1=>?_;clear zz;subst av
  refine aT r fun y t e hl=>?_
  refine dQ r1 fun a dd sl ws nn O ha hlen rl=>?_
  show Ev prog w base cl A X false _ s (match fq xs with | some ys=>R.guard (decide (2<=ys.length)&&decide (bf ys+l.length*ys.length<=lim)) (.ok (.bytes (a9 l ys))) | none=>.stuck)
  cases q:fq xs with
  | none=>exact .stuck
  | some ys=>
   refine Ev.guard fun hg=>?_
   simp only[Bool.and_eq_true,decide_eq_true_eq] at hg
   refine Exists.elim (Lh q rl) fun ps zz=>aB zz fun OY Qv=>?_
   have Sb:=a8 e
   have j3:lim<=16777216:=by decide
   have hline:=bu
   have hjl:=og l ys
   have Xh:ws=⟨pj ps⟩:=by rw[<- OY]
   subst Xh
   have h2:2<=ps.length:=by have:=hg.1;rw[<- Qv] at this;simpa using this
   obtain⟨bP,di,rr,rfl⟩:∃ bP di rr,ps=bP::di::rr:=by
    match ps,h2 with
    | bP::di::rr,_=>exact⟨bP,di,rr,rfl⟩
   have hj:(Bytes.joined y ((bP::di::rr).map (·.1))).toList.map UInt8.toNat=a9 l ys:=by
    rw[HM,e,List.map_map,<- Qv];rfl
   have hjs:(Bytes.joined y ((bP::di::rr).map (·.1))).size=(a9 l ys).length:=a8 hj
   refine Ev.flat (fun O O O=>trivial) fun Q E hQ=>wpAny_call_entry FY.fh (W.typeIs_bytes s y t) FY.oi (HK ha rfl rfl (by lia) ?_ ⟨_,rfl,hQ _ _ (dF _ hj (by lia))⟩) (FY.mX _ _)
   rw[List.foldl_toArray,B5]
   unfold Bytes.tooLong
   have e1:(((bP::di::rr).map (·.1)).map fun p=>p.toList.map UInt8.toNat)=ys:=by rw[List.map_map];exact Qv
   rw[e1]
   have e2:((bP::di::rr).map (·.1)).toArray.size=ys.length:=by rw[<- Qv];simp
   rw[e2]
   have e3:y.size*(ys.length - 1)<=l.length*ys.length:=by rw[Sb];exact Nat.mul_le_mul_left _ (Nat.sub_le _ _)
   simp only[decide_eq_false_iff_not,gt_iff_lt,Nat.not_lt]
   lia
end
theorem wC:typeLookup (.type "bytes") "__int__"=pure none:=by rw[typeLookup_type,builtinLookup_eq_fast];kernel_rfl
theorem wD:typeLookup (.type "bytes") "__index__"=pure none:=by rw[typeLookup_type,builtinLookup_eq_fast];kernel_rfl
theorem su:typeLookup (.type "bytes") "__trunc__"=pure none:=by rw[typeLookup_type,builtinLookup_eq_fast];kernel_rfl
set_option maxHeartbeats 4000000 in
theorem pO {b:Array UInt8}{u:Tok}{n:Int} (hs:((b.toList.map (·.toNat)).takeWhile (· != 0)).length<=640) (hr:(int_private% "readNumeral") 0 10 ((b.toList.map (·.toNat)).takeWhile (· != 0))=(int_private% "Numeral.value") n)
  (ha:(((b.toList.map (·.toNat)).takeWhile (· != 0)).length == (b.toList.map (·.toNat)).length)=true):Gives (Builtin.«int.__new__» ⟨[.type "int",.bytes b u],[]⟩) (.int n):=
 .of_wp fun M A E s Q h=>by
  obtain⟨hp,g,d,tk,os⟩:=s
  have f1:=F.conv_sub_int
  have f2:=F.madeHere_int
  have f3:=wC
  have f4:=wD
  have f5:=su
  have f6:typeOf (.bytes b u)=pure (.type "bytes"):=rfl
  have hk:=KIN.Hid.mk (And.intro hs (And.intro hr ha))
  clear hs hr ha
  repeat (any_goals (first
   | assumption
   | ((with_reducible show wpAny _ _ ((int_private% "intFromText") _ _ _) _ _ _);refine KIN.wp_text hk.out.1 hk.out.2.1 hk.out.2.2 ?_)
   | wp_step))
  all_goals first | exact⟨_,rfl,h⟩ | skip
theorem g9:∀ {l:List Nat},(∀ c∈l,48<=c)->l.takeWhile (· != 0)=l:=by
 intro z0
 induction z0 with
 | nil=>
  exact fun O=>rfl
 | cons c l ih=>
  intro h
  have:=h c (.head _)
  rw[List.takeWhile_cons,if_pos (by simp;lia),ih fun d hd=>h d (.tail _ hd)]
theorem y5 {l:List Nat} (hd:NumText.AllDigits l) (aq:l≠[]) (hl:l.length<=640):(int_private% "readNumeral") 0 10 (l.takeWhile (· != 0))=(int_private% "Numeral.value") ((NumText.digitsVal l:Nat):Int):=by
 have hx:=intText_digits (x:=⟨l.toArray⟩) (by simpa using hd) (by simpa using aq) (by show l.toArray.size<=4300;simp;lia)
 have ht:numTextOf (⟨l.toArray⟩:PySem.Str)=l:=by
  unfold numTextOf
  rw[if_pos]
  simp only[List.all_toArray,List.all_eq_true,decide_eq_true_eq]
  intro c hc;have:=hd c hc;lia
 have hs:numSeenOf (⟨l.toArray⟩:PySem.Str)=l.takeWhile (· != 0):=by unfold numSeenOf;rw[ht]
 rcases read0 (⟨l.toArray⟩:PySem.Str) (by rw[hs,g9 fun c hc=>(hd c hc).1];exact hl) with ⟨m,h1,h2,h3⟩ | ⟨h1,_⟩
 ·rw[hx] at h1
  rw[hs] at h3
  rw[h3,<- Option.some.inj h1]
 ·rw[hx] at h1;contradiction
section
variable {prog:Program}{w:World}{base:Heap}{cl:dB->Value}
set_option tactic.hygienic true in
theorem Li {fr:Bool}:fc prog w base cl fr (.type "int") .int:=fun A X s ds vs hh hu hl r=>by
 cases ds with
 | nil=>exact .stuck
 | cons d ds=>
 cases d<;>cases ds<;>try exact .stuck
 rename_i l
 show Ev prog w base cl A X fr _ s (R.guard (!l.isEmpty&&l.all aM&&decide (l.length<=640)) (.ok (.int (digitsVal l))))
 refine Exists.elim (ew r) fun v zz=>aB zz fun av r1=>?_;clear zz;subst av
 refine aT r1 fun y t e h=>?_
 refine Ev.guard fun hg=>?_
 simp only[Bool.and_eq_true,Bool.not_eq_true',decide_eq_true_eq,List.all_eq_true] at hg
 refine aB hg fun mj h3=>?_;obtain⟨h1,h2⟩:=mj
 have hd:NumText.AllDigits l:=fun c hc=>by have:=h2 c hc;unfold aM at this;simpa using this
 have aq:l≠[]:=by intro q;subst q;simp at h1
 subst e
 have ht:=g9 fun c hc=>(hd c hc).1
 refine Ev.flat (fun O O O=>trivial) fun Q E hQ=>call_int_1 (pO (n:=((digitsVal (y.toList.map UInt8.toNat):Nat):Int)) (by rw[ht];exact h3) (y5 hd aq h3) (by rw[ht];simp)).meets (show (Made.int _).post _ s from ⟨rfl,hQ _ _ (bB _ _)⟩)
end
namespace FZ
theorem pP:PlainAttrs "bytearray":=⟨⟨"bytearray.__getattribute__",by rw[typeLookup_type,builtinLookup_eq_fast];kernel_rfl,by decide +kernel⟩,by rw[typeLookup_type,builtinLookup_eq_fast];kernel_rfl⟩
theorem Lj:mroOf (.type "bytearray")=pure [.type "bytearray",.type "object"]:=by rw[mroOf_type];kernel_rfl
theorem Ln:typeLookup (.type "bytearray") "__new__"=pure (some (.builtin "bytearray.__new__")):=by rw[typeLookup_type,builtinLookup_eq_fast];kernel_rfl
theorem look_release:typeLookup (.type "bytearray") "__release_buffer__"=pure (some (.builtin "bytearray.__release_buffer__")):=by rw[typeLookup_type,builtinLookup_eq_fast];kernel_rfl
theorem HN:Slot "bytearray" "__init__" "bytearray.__init__":=
 .of (owner:="bytearray") (n:="__init__") (by rw[typeLookup_type,builtinLookup_eq_fast];kernel_rfl) (by decide +kernel) (by decide +kernel) (by decide +kernel)
  (by first | exact .inl (by decide +kernel) | exact .inr (by decide +kernel)) (by rw[isSubtype_type];kernel_rfl)
theorem jG:Slot "bytearray" "append" "bytearray.append":=
 .of (owner:="bytearray") (n:="append") (by rw[typeLookup_type,builtinLookup_eq_fast];kernel_rfl) (by decide +kernel) (by decide +kernel) (by decide +kernel)
  (by first | exact .inl (by decide +kernel) | exact .inr (by decide +kernel)) (by rw[isSubtype_type];kernel_rfl)
theorem called:TypeCalled "bytearray" "bytearray.__new__" "bytearray.__init__":=
 ⟨by decide +kernel,by decide +kernel,⟨_,_,Lj⟩,madeBy_type Lj Ln (by decide +kernel),by decide +kernel,by rw[isSubtype_type];kernel_rfl,HN⟩
theorem typeCall:checkTypeCall "bytearray" ⟨[],[]⟩=pure ():=by kernel_rfl
theorem O3:checkBuiltinCall "bytearray.__new__" ⟨[.type "bytearray"],[]⟩=pure ():=by kernel_rfl
theorem HP:entryFor table "bytearray.__new__"=some Builtin.«list.__new__»:=entryFor_alias (id':="list.__new__") (by kernel_rfl) (by decide +kernel) (by decide +kernel) (by kernel_rfl)
theorem B7:entryFor table "bytearray.__init__"=some Builtin.«bytearray.__init__»:=entryFor_of_tree (by kernel_rfl)
theorem wF:entryFor table "bytearray.append"=some Builtin.«bytearray.append»:=entryFor_of_tree (by kernel_rfl)
theorem uM:plainId "bytearray.__new__"=true:=by decide +kernel
theorem y6:typeOf (.builtin "bytearray.append")=pure (.type "method_descriptor"):=by show builtinType _=_;rw[builtinType_eq_fast];kernel_rfl
theorem wG:isSubtype (.type "bytearray") (.type "bytearray")=pure true:=by rw[isSubtype_type];kernel_rfl
theorem Vq:Bytes.bindOptional "bytearray.__init__" "bytearray" ["source","encoding","errors"] [] []=pure [none,none,none]:=by kernel_rfl
theorem ends:("bytearray.__release_buffer__").endsWith ("."++"__release_buffer__")=true:=by decide +kernel
theorem drops:("bytearray.__release_buffer__").dropRight (("__release_buffer__":String).length+1)="bytearray":=by decide +kernel
end FZ
namespace FZ
theorem owner:Manifest.owners.lookup (String.ofList ['y','a','r','r','a','e','t','y','b'].reverse)=some Manifest.sig_bytearray:=by kernel_rfl
theorem HQ (a:Value):argsOk "bytearray.__init__" ⟨[a],[]⟩:=by
 unfold argsOk;rw[signature?_of (id:="bytearray.__init__") (n:=['_','_','t','i','n','i','_','_']) (o:=['y','a','r','r','a','e','t','y','b']) (by kernel_rfl) owner];kernel_rfl
theorem y7 (a b:Value):argsOk "bytearray.append" ⟨[a,b],[]⟩:=by
 unfold argsOk;rw[signature?_of (id:="bytearray.append") (n:=['d','n','e','p','p','a']) (o:=['y','a','r','r','a','e','t','y','b']) (by kernel_rfl) owner];kernel_rfl
end FZ
section
variable {prog:Program}{w:World}{base:Heap}{cl:dB->Value}{A:Around}{X:Addr->Prop}{E:Value->Shared->Prop}{s:Shared}
theorem Si {Q₁:Value->Shared->Prop} (h:Q₁ (.ref s.heap.objs.size) { s with heap:=s.heap.push { cls:=.type "bytearray",data:=.bytearray #[] } }) :
  codeAny (model prog w) A (.call (.builtin "bytearray.__new__") ⟨[.type "bytearray"],[]⟩) (wants Q₁ E) s:=by
 refine codeAny_of_tree ?_
 show wpAny _ A.in1 (do checkBuiltinCall "bytearray.__new__" ⟨[.type "bytearray"],[]⟩;again (.builtin "bytearray.__new__" ⟨[.type "bytearray"],[]⟩)) _ _ s
 refine wpAny_bind (wpAny_of_eq FZ.O3 (wpAny_pure ⟨plainId_quiet FZ.uM _,codeAny_builtin_stack FZ.HP rfl fun p st=>?_⟩))
 rw[Around.under_plainId FZ.uM _]
 have mO:(("bytearray.__new__":String).splitOn ".__new__").headD ""="bytearray":=by rw[split_bytearray];rfl
 have A7:=FZ.wG
 obtain⟨hp,g,d,tk,os⟩:=s
 dsimp only
 rw[mO]
 wp_walk
 exact h
end
section
variable {M:Model}{A:Around}{E:Value->Shared->Prop}{s:Shared}
theorem own_release {a:Addr}{o:Obj}{Q:Bool->Shared->Prop} (ho:s.heap.get? a=some o) (hc:o.cls=.type "bytearray") (h:Q false s):wpAny M A (Bytes.ownRelease (.ref a)) Q E s:=by
 have hT:s.TypeIs (.ref a) "bytearray":=⟨o,ho,hc⟩
 refine wpAny_bind (wpAny_bind (wpAny_specialOf hT FZ.look_release ?_))
 dsimp only
 rw[if_neg (by rw[FZ.ends];decide),FZ.drops]
 exact wpAny_isInstance hT FZ.wG (wpAny_pure h)
theorem pk {a:Addr}{o:Obj}{y:Array UInt8}{n:Nat}{f:Array UInt8->Array UInt8}{Q:Unit->Shared->Prop} (ho:s.heap.get? a=some o) (hd:o.data=.bytearray y n) (hz:(f y).size<=sizeLine)
  (h:Q () { s with heap:=s.heap.update a (Obj.mapBytearray f) }):wpAny M A (Bytes.write (.ref a) f) Q E s:=by
 obtain⟨c,d,dt,sl⟩:=o
 simp only at hd
 subst hd
 show wpAny _ _ (updateBytearray a f) _ _ _
 refine wpAny_bind (wpAny_load ho ?_)
 show wpAny _ _ (update a (Obj.mapBytearray f) >>= fun O=>lookBehind a) _ _ _
 refine wpAny_bind (wpAny_update ho ?_)
 refine wpAny_lookBehind (s:={ s with heap:=s.heap.update a (Obj.mapBytearray f) }) (Heap.get?_update_self (Obj.mapBytearray f) ho rfl) ?_ h
 show (if (f y).size > sizeLine then some "bytearray:memory" else none)=none
 rw[if_neg (by lia)]
theorem sv {a:Addr}{o:Obj}{y:Array UInt8}{Q:Bool->Shared->Prop} (ho:s.heap.get? a=some o) (hd:o.data=.bytearray y 0) (h:Q false s) :
  aK M A (Bytes.exported (.ref a) <||> (do return decide ((<- Bytes.exportsOf (.ref a)) > 0):Sem Bool)) Q E s:=by
 show aK M A (Bytes.exported (.ref a) >>= fun b=>_) Q E s
 refine aI (Bo ?_)
 refine (wpAny_bind (m:=Bytes.exportsOf (.ref a)) ?_:wpAny M A (do return decide ((<- Bytes.exportsOf (.ref a)) > 0):Sem Bool) Q E s).g
 show wpAny _ _ (load a >>= _) _ _ _
 refine wpAny_bind (wpAny_load ho ?_)
 rw[hd]
 exact wpAny_pure (wpAny_pure h)
theorem HR {a:Addr}{o:Obj}{Q:PySem.Fin->Shared->Prop} (ho:s.heap.get? a=some o) (hc:o.cls=.type "bytearray") (hd:o.data=.bytearray #[] 0)
  (h:Q (.done (.ret .none)) { s with heap:=s.heap.update a (Obj.mapBytearray fun O=>#[]) }):aK M A («bytearray.__init__» ⟨[.ref a],[]⟩) Q E s:=by
 unfold «bytearray.__init__»
 refine aI (own_release ho hc ?_).g
 rw[if_neg (by decide)]
 refine eU FZ.Vq ?_
 refine eU (a:=()) rfl (eU (a:=()) rfl ?_)
 refine aI (sv ho hd ?_)
 rw[if_neg (by decide)]
 refine aI (pk ho hd (Nat.zero_le _) ?_).g
 exact aI (aF (aF h))
theorem y8 {a:Addr}{o:Obj}{y:Array UInt8}{i:Int}{t:Tok}{Q:PySem.Fin->Shared->Prop} (ho:s.heap.get? a=some o) (hd:o.data=.bytearray y 0) (h0:0<=i) (h1:i<256) (hz:y.size<sizeLine)
  (h:Q (.done (.ret .none)) { s with heap:=s.heap.update a (Obj.mapBytearray (·.push i.toNat.toUInt8)) }):aK M A («bytearray.append» ⟨[.ref a,.int i t],[]⟩) Q E s:=by
 unfold «bytearray.append»
 refine eU (a:=(.ref a,.int i t)) rfl ?_
 refine aI (m:=Bytes.byteValue (.int i t)) ?_
 refine eU (a:=i) rfl ?_
 rw[if_neg (by simp;lia)]
 refine aF ?_
 refine aI (m:=Bytes.checkResize (.ref a)) ?_
 refine aI (sv ho hd ?_)
 rw[if_neg (by decide)]
 refine aF ?_
 exact aI (pk ho hd (by simp;lia) (aF h)).g
end
section
variable {prog:Program}{w:World}{A:Around}{E:Value->Shared->Prop}{R:Result->Shared->Prop}{s:Shared}
theorem Dw {id:String}{args:Args} (h:loud.contains id=false):calm (.builtin id args)=true:=by show (!loud.contains id||_)=true;rw[h];rfl
theorem uN {id:String}{args:Args}{b:Builtin} (hk:calm (.builtin id args)=true) (hb:entryFor table id=some b)
  (h:aK (model prog w) (A.under (.builtin id args)) (b args) (fun fin s'=>match fin with | .done f=>R (.ok f) s' | .again c'=>c'.quiet=true/\b8 (model prog w) A c' R s') (fun e s'=>R (.error e) s') s):b8 (model prog w) A (.builtin id args) R s:=by
 refine jt hk ?_
 show aK _ _ (match entryFor table id with | some b=>b args | none=>unsupported ((withoutEnding? id "#data").getD id)) _ _ s
 rw[hb];exact h
theorem jH {id:String}{args:Args}{b:Builtin} (hk:calm (.builtin id args)=true) (hq:plainId id=true) (hb:entryFor table id=some b)
  (hc:∀ {Q:Unit->Shared->Prop}{E:Value->Shared->Prop},Q () s->wpAny (model prog w) A.in1 (checkBuiltinCall id args) Q E s)
  (h:aK (model prog w) A.in1 (b args) (fun fin s'=>match fin with | .done f=>R (.ok f) s' | .again c'=>c'.quiet=true/\b8 (model prog w) A c' R s') (fun e s'=>R (.error e) s') s):b8 (model prog w) A (.call (.builtin id) args) R s:=by
 refine jt rfl ?_
 show aK _ A.in1 (do checkBuiltinCall id args;again (.builtin id args)) _ _ s
 refine aI (hc ?_).g
 refine aF ⟨plainId_quiet hq _,uN hk hb ?_⟩
 rw[Around.under_plainId hq _]
 exact h
theorem oq {Q:Value->Shared->Prop} (h:Q (.ref s.heap.objs.size) { s with heap:=(s.heap.push { cls:=.type "bytearray",data:=.bytearray #[] }).update s.heap.objs.size (Obj.mapBytearray fun O=>#[]) }):aK (model prog w) A (call (.type "bytearray") []) Q E s:=by
 refine lr (jt rfl ?_)
 show aK _ A.in1 (callAny (.type "bytearray") _) _ _ _
 refine aF ⟨Code.quiet_builtin _ (by decide +kernel),uN (by decide +kernel) F.entry_type_call ?_⟩
 rw[Around.under_plain (weight_type_call_type "bytearray" [] []) rfl]
 have ft:=FZ.called
 refine bT ft.mro fun c tl Xi=>?_
 unfold «type.__call__»
 dsimp only
 rw[if_neg (by rw[ft.notType];decide)]
 rw[if_neg (by rw[ft.canCreate];decide)]
 refine eU FZ.typeCall ?_
 refine eU Xi ?_
 rw[if_neg (by simp)]
 refine eU ft.made (eU rfl ?_)
 refine aI (az (lr (v9 (Si (E:=E) (Q₁:=fun v s₁=>v=.ref s.heap.objs.size/\s₁={ s with heap:=s.heap.push { cls:=.type "bytearray",data:=.bytearray #[] } }) ⟨rfl,rfl⟩).g fun r s₁ hr=>?_)))
 cases r with
 | error e=>exact hr
 | ok f=>
  cases f with
  | ret v=>
   refine aB hr fun av gQ=>?_;try clear hr;subst av;subst gQ
   have hg:(s.heap.push { cls:=.type "bytearray",data:=.bytearray #[] }).get? s.heap.objs.size=some { cls:=.type "bytearray",data:=.bytearray #[] }:=Heap.get?_push_size _ rfl
   have hT:({ s with heap:=s.heap.push { cls:=.type "bytearray",data:=.bytearray #[] } }:Shared).TypeIs (.ref s.heap.objs.size) "bytearray":=⟨_,hg,rfl⟩
   refine aI (wpAny_isInstance hT FZ.wG ?_).g
   rw[if_neg (by decide)]
   refine aI (az (m:=callSpecial? (.ref s.heap.objs.size) (Str.ofString "__init__")) ?_)
   unfold callSpecial?
   refine aI (wpAny_specialOf hT ft.init.lookup ?_).g
   refine az (eU (ft.init.bind _) ?_)
   refine aI (lr (jH (Dw (by decide +kernel)) ft.init.plain FZ.B7 (fun {Q E} hq=>ft.init.check _ _ _ _ _ _ _ _ hT (FZ.HQ _) hq) (HR hg rfl rfl ?_)))
   exact aF (aF h)
  | _=>exact hr.elim
end
section
variable {prog:Program}{w:World}{base:Heap}{cl:dB->Value}{A:Around}{X:Addr->Prop}{s:Shared}{D:Fn->List V->R V}{n:Nat}{sc:Scope}{j:List (PySem.Str × Nat)}{K:Frag}{ec:Env}{J:Ρ}{h₀:Heap}
theorem O4 {fr:Bool}{np pos:Pos} (W:Wd K base) (hk:sc.names.lookup (Str.ofString "bytearray")=some .globalImplicit) (hg:nsIn K mainGlobals (Str.ofString "bytearray")=some none) (hb:bootBuiltins (Str.ofString "bytearray")=some (.type "bytearray")) :
  aL prog w base cl D n fr sc j (.Call (.Name (Str.ofString "bytearray") np) [] [] pos) (.prim .b9 .nil):=fun A X ec J s a Q E po aq=>by
 refine dz (cJ W a.cx.stays a.ge a.scope hk hg hb ?_ (by decide) (by decide)).g
 refine dP rfl (yv (oq ?_))
 have hg:(s.heap.push { cls:=.type "bytearray",data:=.bytearray #[] }).get? s.heap.objs.size=some { cls:=.type "bytearray",data:=.bytearray #[] }:=Heap.get?_push_size _ rfl
 have kp:Kept base s.heap ((s.heap.push { cls:=.type "bytearray",data:=.bytearray #[] }).update s.heap.objs.size (Obj.mapBytearray fun O=>#[])):=
  (Kept.push base s.heap _).extBut (bS _) (Heap.SameBut.update ..).extBut
 have Xf:=Heap.get?_update_self (Obj.mapBytearray fun O=>#[]) hg rfl
 have own:b0 ((s.heap.push { cls:=.type "bytearray",data:=.bytearray #[] }).update s.heap.objs.size (Obj.mapBytearray fun O=>#[])) X s.heap.objs.size (.b9 []):=
  ⟨_,#[],0,Xf,rfl,rfl,rfl,rfl,rfl,Nat.zero_le _⟩
 exact po.ok (.b9 []) _ _ _ (by rfl) kp (own.rep (a.low.none (bS _))) fun O=>⟨_,rfl,bS _,own⟩
set_option tactic.hygienic true in
theorem bJ.push {f1:Bool}{x:PySem.Str}{px ap cp pos:Pos}{e:Expr}{p:PE}{i:Nat}{σ':List (PySem.Str × Nat)} (he:aL prog w base cl D n f1 sc j e p) (j8:j.lookup x=some i) (gg:notStar e=true)
  (hline:(ap.endLine == cp.line)=true)
  (hd:(x == ("__debug__":PySem.Str))=false) (hc:(x == ("__classdict__":PySem.Str))=false)
  (Hy:∀ env,swapsWith (.Call (.Attribute (.Name x px) "append" ap) [e] [] cp) none pos.line env=pure false):bJ prog w base cl D n (some i) (some i) sc j (.Expr (.Call (.Attribute (.Name x px) "append" ap) [e] [] cp) pos) (.push i p):=fun A X ec J h₀ s ow ho st Q E po aq=>by
 refine Exists.elim (gY ho) fun a av=>?_;subst av
 cases q:J[i]? with
 | none=>rw[uV,q] at aq;exact absurd rfl aq
 | some o=>
  cases o with
  | none=>rw[uV,q] at aq;exact absurd rfl aq
  | some dl=>
   cases dl<;>first | (rw[uV,q] at aq;exact absurd rfl aq) | skip
   ·rename_i xs
    rw[uV,q] at po aq
    have Oe:∀ env,starEach [e] env=[(false,eval e env)]:=fun env=>aR gg
    refine Bs (gy rfl (by rw[Oe];rfl) hline ?_) (by unfold interactive;rw[st.at'.ge.kind];rfl) (Hy ec)
    refine (lF (h:=s.heap) st j8 q hd hc fun vl si=>?_).g
    unfold eB at si
    dsimp only at si
    rw[if_pos rfl] at si
    refine aB si fun av mO=>?_;try clear si;subst av
    refine eA (id mO) fun o y nn zz=>Wf zz fun g c dn W7 hn hy hl=>?_
    refine⟨"bytearray","bytearray.append",FZ.pP,FZ.jG,FZ.y6,⟨o,g,c⟩,fun b hb=>⟨o,by injection hb with hb;subst hb;exact g,dn⟩,?_⟩
    rw[Oe]
    refine cn rfl (c5 (cR (he A X ec J s st.freeze.at' _ _ ⟨fun d v ai tk e₁ k rp O=>(spliced_nil ?_).g,po.ex st⟩ (fW aq))))
    have ao:=fz aq e₁
    have cL:=po.step (h:=ai) (tk:=tk) e₁
    obtain⟨kk,rfl⟩:∃ kk,d=.int kk:=by cases d<;>first | exact⟨_,rfl⟩ | exact absurd rfl ao
    dsimp only at cL ao
    by_cases s7:0<=kk/\kk<256/\xs.length<lim
    ·rw[if_pos s7] at cL
     refine aP rp fun t=>?_
     have ct:=st.kept k
     refine eA (mO.kept k) fun pH OU n₁ zz=>Wf zz fun g₁ c₁ Dt yR Vr Qy Qi=>?_
     subst Vr
     have j4:OU.size=xs.length:=a8 Qy
     have Qm:lim<=16777215:=by decide
     have hT:({ s with heap:=ai,toks:=tk }:Shared).TypeIs (.ref a) "bytearray":=⟨pH,g₁,c₁⟩
     refine lr (jH (Dw (by decide +kernel)) FZ.jG.plain FZ.wF (fun {Q E} hq=>FZ.jG.check _ _ _ _ _ _ _ _ hT (FZ.y7 _ _) hq) (y8 (s:={ s with heap:=ai,toks:=tk }) g₁ yR s7.1 s7.2.1 (by have:=bu;lia) ?_))
     obtain⟨cc,dd,dt,sl⟩:=pH
     simp only at c₁ Dt yR
     subst yR c₁ Dt
     have R7:=Heap.get?_update_self (Obj.mapBytearray (·.push kk.toNat.toUInt8)) g₁ rfl
     refine cL.next _ (some (i,a)) _ tk rfl rfl (ct.turn (y:=x) (Heap.SameBut.update ..).extBut ?_ j8 q)
     refine⟨_,OU.push kk.toNat.toUInt8,0,R7,rfl,rfl,rfl,rfl,?_,by simp;lia⟩
     rw[Array.toList_push,List.map_append,Qy]
     congr 1
     show [(kk.toNat.toUInt8).toNat]=[kk.toNat]
     rw[Nat.toUInt8_eq,UInt8.toNat_ofNat']
     congr 1
     lia
    ·rw[if_neg s7] at ao;exact absurd rfl ao
end
namespace FZ
theorem Lp:typeLookup (.type "bytearray") "__bytes__"=pure none:=by rw[typeLookup_type,builtinLookup_eq_fast];kernel_rfl
theorem O5:typeLookup (.type "bytearray") "__index__"=pure none:=by rw[typeLookup_type,builtinLookup_eq_fast];kernel_rfl
theorem look_buffer:typeLookup (.type "bytearray") "__buffer__"=pure (some (.builtin "bytearray.__buffer__")):=by rw[typeLookup_type,builtinLookup_eq_fast];kernel_rfl
theorem Sj:("bytearray.__buffer__").endsWith ("."++"__buffer__")=true:=by decide +kernel
theorem O6:("bytearray.__buffer__").dropRight (("__buffer__":String).length+1)="bytearray":=by decide +kernel
end FZ
section
variable {prog:Program}{w:World}{base:Heap}{cl:dB->Value}{A:Around}{X:Addr->Prop}{s:Shared}
theorem HS {id:String}{b:Bool}{a:Addr}{o:Obj}{y:Array UInt8}{n:Nat}{M:Model}{E:Value->Shared->Prop}{Q:Option (Array UInt8)->Shared->Prop} (ho:s.heap.get? a=some o) (hc:o.cls=.type "bytearray") (hd:o.data=.bytearray y n) (h:Q (some y) s) :
  wpAny M A (Bytes.buffer? id (.ref a) b) Q E s:=by
 have hT:s.TypeIs (.ref a) "bytearray":=⟨o,ho,hc⟩
 unfold Bytes.buffer?
 refine wpAny_bind (wpAny_specialOf hT FZ.look_buffer ?_)
 dsimp only
 refine wpAny_bind ?_
 unfold Bytes.slotIsOwn
 refine wpAny_bind (wpAny_specialOf hT FZ.look_buffer ?_)
 dsimp only
 rw[if_neg (by rw[FZ.Sj];decide),FZ.O6]
 refine wpAny_isInstance hT FZ.wG ?_
 rw[if_neg (by decide)]
 refine wpAny_bind (wpAny_specialOf hT FZ.look_buffer ?_)
 refine wpAny_bind (own_release ho hc ?_)
 rw[if_neg (by decide)]
 refine wpAny_bind (wpAny_bind ?_)
 show wpAny _ _ (load a >>= _) _ _ _
 refine wpAny_bind (wpAny_load ho ?_)
 rw[hd]
 exact wpAny_pure (wpAny_pure (wpAny_pure h))
theorem wH {a:Addr}{o:Obj}{y:Array UInt8}{n:Nat}{R:Result->Shared->Prop} (ho:s.heap.get? a=some o) (hc:o.cls=.type "bytearray") (hd:o.data=.bytearray y n) (hz:y.size<=sizeLine)
  (hR:R (.ok (.ret (.bytes y s.toks))) { s with toks:=s.toks+1 }):codeAny (model prog w) A (.call (.builtin "bytes.__new__") ⟨[.type "bytes",.ref a],[]⟩) R s:=by
 refine codeAny_of_tree ?_
 show wpAny _ A.in1 (do checkBuiltinCall "bytes.__new__" ⟨[.type "bytes",.ref a],[]⟩;again (.builtin "bytes.__new__" ⟨[.type "bytes",.ref a],[]⟩)) _ _ s
 refine wpAny_bind (wpAny_of_eq (F.bm_newCall _) (wpAny_pure ⟨plainId_quiet F.bm_plain _,codeAny_builtin F.bm_entry ?_⟩))
 rw[Around.under_plainId F.bm_plain _]
 have hT:s.TypeIs (.ref a) "bytearray":=⟨o,ho,hc⟩
 unfold Builtin.«bytes.__new__»
 refine wpAny_bind (wpAny_of_eq (a:=true) rfl ?_)
 refine bm_if_false rfl ?_
 refine wpAny_bind (wpAny_of_eq F.bm_sub ?_)
 refine bm_if_false rfl ?_
 refine wpAny_bind (wpAny_of_eq (F.bm_bind _) ?_)
 refine wpAny_bind (wpAny_of_eq (a:=()) rfl ?_)
 refine wpAny_bind (wpAny_of_eq (a:=()) rfl ?_)
 refine bm_if_false rfl ?_
 refine wpAny_bind (wpAny_specialOf hT FZ.Lp ?_)
 refine wpAny_bind (wpAny_bind ?_)
 show wpAny _ _ (load a >>= _) _ _ _
 refine wpAny_bind (wpAny_load ho ?_)
 rw[hd]
 refine wpAny_pure (wpAny_pure ?_)
 refine bm_if_false rfl ?_
 refine wpAny_bind (wpAny_specialOf hT FZ.O5 ?_)
 refine bm_if_true rfl ?_
 first
  | show wpAny _ _ (Builtin.Bytes.buffer? "bytes.__new__" (.ref a) true >>= _) _ _ _
  | (refine wpAny_bind ?_;show wpAny _ _ (Builtin.Bytes.buffer? "bytes.__new__" (.ref a) true >>= _) _ _ _)
 refine wpAny_bind (HS ho hc hd ?_)
 refine wpAny_bind (wpAny_rule (wpAny_bind (wpAny_mkBytes ?_ hz)))
 first
  | show wpAny _ _ (if (Value.type "bytes" == Value.type "bytes")=true then _ else _) _ _ _
  | (refine wpAny_bind ?_;show wpAny _ _ (if (Value.type "bytes" == Value.type "bytes")=true then _ else _) _ _ _)
 refine bm_if_true (by decide) ?_
 first
  | exact wpAny_pure hR
  | exact wpAny_bind (wpAny_pure (wpAny_pure hR))
theorem B8 (Hz:cl .value=.type "ValueError"):fc prog w base cl false (.type "bytes") .bytes:=fun A X s ds vs hh hu hl r=>by
 cases ds with
 | nil=>exact .stuck
 | cons d ds=>
 cases d<;>cases ds<;>try exact .stuck
 rotate_left
 ·refine Exists.elim (ew r) fun v zz=>aB zz fun av r1=>?_;clear zz;subst av
  exact bytes_list (prog:=prog) (w:=w) (base:=base) (cl:=cl) (A:=A) Hz hh r1
 ·refine Exists.elim (ew r) fun v zz=>aB zz fun av r1=>?_;clear zz;subst av
  refine kK r1 fun a o y n zz=>Wf zz fun av ho hc hd hn hy hx=>?_;clear zz;try clear r1;subst av
  have hz:=a8 hy
  exact Ev.val fun Q E hQ=>sm (wH ho.1 hc hd (by have:=bu;lia) ⟨rfl,hQ _ _ _ (.refl _ _) (dF _ hy hx) fun O=>trivial⟩)
end
noncomputable def dR:PySem.Str:=⟨#[48,50,120]⟩
theorem pQ {v:Value}{k:String->Sem PySem.Fin}{m:Made} (h:∀ (M:Model) (A:Around) (E:Value->Shared->Prop) (s:Shared) (Q:String->Shared->Prop),(∀ n,Q n s)->wpAny M A (typeNameOfCut 200 v) Q E s) (g:∀ n,Gives (k n) m):Gives (typeNameOfCut 200 v >>= k) m:=
 fun prog w A R s hq=>wpAny_bind (h _ _ _ _ _ fun n=>g n prog w A R s hq)
theorem O7 {a:Int}{t:Tok} (M:Model) (A:Around) (E:Value->Shared->Prop) (s:Shared) (Q:String->Shared->Prop) (h:∀ n,Q n s):wpAny M A (typeNameOfCut 200 (.int a t)) Q E s:=wpAny_pure (h _)
theorem gives_retStr (y:PySem.Str):Gives (retStr y) (.str y):=.of_eq rfl
theorem HV (a:Nat) (ha:a<256) (t u:Tok):∃ y:PySem.Str,Gives (Builtin.«int.__format__» ⟨[.int a t,.str dR u],[]⟩) (.str y)/\y.cps.toList=[dC (a / 16),dC (a % 16)]:=by
 obtain⟨f,hf⟩:∃ f:Float.FormatSpec,f={ fill:=48,align:=61,width:=some 2,type:=some 120 }:=⟨_,rfl⟩
 have hp:∀ n,Float.parseFormatSpec dR.cps.toList n 62=.ok f:=fun n=>by rw[hf];rfl
 have h1:f.precision=none:=by rw[hf]
 have h2:f.noNeg0=false:=by rw[hf]
 have h3:f.width=some 2:=by rw[hf]
 have h4:f.type=some 120:=by rw[hf]
 refine⟨?_,?_,?_⟩
 rotate_left
 ·unfold Builtin.«int.__format__»
  have e1:selfAndOne "int.__format__" ⟨[.int a t,.str dR u],[]⟩=pure (.int a t,.str dR u):=rfl
  rw[e1,pure_bind]
  dsimp only
  rw[show Int.intOfSelf (.int a t)=pure (a:Int) from rfl,pure_bind,if_neg (show ¬ (Value.str dR u == Value.none)=true from Bool.false_ne_true)]
  refine gives_after_typeNameOf (T:="str") (fun s=>typeIs_str s _ _) (by decide) fun O=>?_
  rw[show asStr? (Value.str dR u)=pure (some dR) from rfl,pure_bind]
  dsimp only
  rw[if_neg (by decide),if_neg (by decide)]
  refine pQ O7 fun n=>?_
  rw[hp]
  dsimp only
  rw[if_pos (by rw[h4];decide +kernel)]
  show Gives (ite (f.precision.isSome=true) _ _) _
  rw[if_neg (by rw[h1];decide)]
  show Gives (ite (f.noNeg0=true) _ _) _
  rw[if_neg (by rw[h2];decide)]
  show Gives (ite ((f.type.getD (if (dR.cps.back? == some 0)=true then 0 else 100) == 99)=true) _ _) _
  rw[if_neg (by rw[h4];decide)]
  rw[h4,if_neg (by decide),if_neg (by decide),if_pos (by decide)]
  dsimp only
  rw[if_neg (by decide),if_neg (by rw[h3];decide)]
  with_reducible exact gives_retStr _
 ·subst hf
  revert a
  decide +kernel
section
variable {M:Model}{A:Around}{E:Value->Shared->Prop}{s:Shared}{env:Env}
theorem y9 {value:Expr}{pos:Pos}{Q:Value->Shared->Prop} (h:aK M A (eval value env) (fun v s₁=>wpAny M A (formatField v PySem.Str.empty) Q E s₁) E s):aK M A (eval (.FormattedValue value (-1) none pos) env) Q E s:=by
 rw[arm_eval_FormattedValue]
 refine aw h fun v s₁ ai=>au ?_
 show aK _ _ (do let v' <- holding [v] (pure v);formatField v' PySem.Str.empty) Q E s₁
 exact aI (az (aF ai.g))
theorem pR {value:Expr}{sp:PySem.Str}{k:Nat}{Sl Vs pos:Pos}{Q:Value->Shared->Prop} (h:aK M A (eval value env) (fun v s₁=>wpAny M A (formatField v sp) Q E { s₁ with toks:=s₁.toks+1 }) E s) :
  aK M A (eval (.FormattedValue value (-1) (some (.JoinedStr [.Constant (.str sp) k Sl] Vs)) pos) env) Q E s:=by
 rw[arm_eval_FormattedValue]
 refine aw h fun v s₁ ai=>au ?_
 show aK _ _ (do
  let v' <- holding [v] (pure v)
  let r <- holding [v'] (eval (.JoinedStr [.Constant (.str sp) k Sl] Vs) env)
  match r with
  | .str sp _=>(do standAt pos;formatField v' sp)
  | _=>unsupported "internal:format-spec") Q E s₁
 refine aI (az (aF (aI (az (wpAny.g ?_)))))
 rw[arm_eval_JoinedStr]
 show wpAny _ _ (eval (.Constant (.str sp) k Sl) env) _ _ _
 exact Constant_str (au ai.g)
end
noncomputable def O8 (f:PG) (v:V):R V:=(sO f v).bind fun l=>.ok (V.str l)
section
variable (prog:Program) (w:World) (base:Heap) (cl:dB->Value) (D:Fn->List V->R V) (n:Nat)
def tu (sc:Scope) (j:List (PySem.Str × Nat)) (e:Expr) (f:PG) (p:PE):Prop:=
 ∀ (A:Around) (X:Addr->Prop) (ec:Env) (J:Ρ) (s:Shared),At base n A X none sc j ec J s.heap->kE prog w base cl A X false (eval e ec) s ((ak D p J).bind (O8 f))
def jI (sc:Scope) (j:List (PySem.Str × Nat)) (es:List Expr) (ps:CF):Prop:=
 ∀ (A:Around) (X:Addr->Prop) (ec:Env) (J:Ρ) (s:Shared) (acc:PySem.Str),At base n A X none sc j ec J s.heap->acc.length+100000*es.length<=10000000->∀ (Q E:Value->Shared->Prop),
  (∀ l out h' tk,gH D ps J=.ok l->Kept base s.heap h'->out.cps.toList=acc.cps.toList++l->out.length<=10000000->Q (.str out tk) { s with heap:=h',toks:=tk+1 })->Ex base cl s (gH D ps J) E->gH D ps J≠.stuck->
  aK (model prog w) A (joinParts acc (evalEach es ec)) Q E s
end
section
variable {prog:Program}{w:World}{base:Heap}{cl:dB->Value}{A:Around}{X:Addr->Prop}{s:Shared}{D:Fn->List V->R V}{n:Nat}{sc:Scope}{j:List (PySem.Str × Nat)}{K:Frag}
set_option tactic.hygienic true in
theorem Sn {f:PG}{d:V}{v:Value} (hf:f=.plain) (r:Rep (seen X s.heap) d v):Ev prog w base cl A X false (formatField v PySem.Str.empty) s (O8 f d):=by
 subst hf
 cases d<;>first | exact .stuck | skip
 ·rename_i i
  refine aP r fun t=>?_
  show Ev prog w base cl A X false _ s ((R.guard _ _).bind _)
  by_cases hg:i.natAbs.log2<1920
  ·have e:((R.guard (decide (i.natAbs.log2<1920)) (.ok (bG i))).bind fun l=>(.ok (.str l):R V))=.ok (.str (bG i)):=by simp[R.guard,hg,R.bind]
   rw[e]
   have hz:=int_text_fits hg
   exact Ev.flat (fun O O O=>trivial) fun Q E hQ=>wpAny_formatField_int hg (hQ _ _ (c6 _ (p9 i) (by
    rw[<- p9 i]
    rw[show sizeLine=16777216 from rfl] at hz
    simpa [PySem.Str.length] using hz)))
  ·have e:((R.guard (decide (i.natAbs.log2<1920)) (.ok (bG i))).bind fun l=>(.ok (.str l):R V))=.stuck:=by simp[R.guard,hg,R.bind]
   rw[e];exact .stuck
 ·rename_i l
  refine cH r fun y t e h=>?_
  have hy:=str_len e
  exact Ev.flat (fun O O O=>trivial) fun Q E hQ=>wpAny_formatField_str (hQ _ s.toks (c6 t e h)) (hQ _ _ (c6 _ e h)) (by have:=bu;lia)
set_option tactic.hygienic true in
theorem O9 {d:V}{v:Value} (r:Rep (seen X s.heap) d v):Ev prog w base cl A X false (formatField v dR) s (O8 .uS d):=by
 cases d<;>first | exact .stuck | skip
 rename_i i
 refine aP r fun t=>?_
 show Ev prog w base cl A X false _ s ((if 0<=i/\i<256 then R.ok [dC (i.toNat / 16),dC (i.toNat % 16)] else .stuck).bind _)
 by_cases hg:0<=i/\i<256
 ·rw[if_pos hg]
  refine Exists.elim (Int.eq_ofNat_of_zero_le hg.1) fun m av=>?_;subst av
  have hm:m<256:=by omega
  refine Ev.flat (fun O O O=>trivial) fun Q E hQ=>?_
  have key:∀ u,Gives (Builtin.«int.__format__» ⟨[.int m t,.str dR u],[]⟩) (.str ⟨#[dC (m / 16),dC (m % 16)]⟩):=fun u=>by
   refine Exists.elim (HV m hm t u) fun y zz=>aB zz fun g e=>?_
   have:y=⟨#[dC (m / 16),dC (m % 16)]⟩:=by
    obtain⟨cps⟩:=y
    congr 1
    exact Array.toList_inj.mp e
   exact this ▸ g
  exact wpAny_formatField_spec (by decide) (fun s'=>typeIs_int s' _ _) F.slot_int_format F.entry_int_format F.args_int_format_2 key (hQ _ _ (c6 _ rfl (by simp))) (by decide) (by show 2<=_;decide)
 ·rw[if_neg hg];exact .stuck
theorem tu.plain {f1:Bool}{e:Expr}{pos:Pos}{p:PE} (h:aL prog w base cl D n f1 sc j e p):tu prog w base cl D n sc j (.FormattedValue e (-1) none pos) .plain p:=fun A X ec J s x Q E po aq=>
 y9 (h A X ec J s x _ _ ⟨fun d v ai tk e₁ k rp O=>Sn (s:={ s with heap:=ai,toks:=tk }) rfl rp _ _ (po.step e₁ k) (R.aW aq e₁),po.ex.of⟩ (R.aN aq))
theorem tu.uS {f1:Bool}{e:Expr}{pos jp cp:Pos}{k:Nat}{p:PE}{sp:PySem.Str} (h:aL prog w base cl D n f1 sc j e p) (GB:sp=dR):tu prog w base cl D n sc j (.FormattedValue e (-1) (some (.JoinedStr [.Constant (.str sp) k cp] jp)) pos) .uS p:=fun A X ec J s x Q E po aq=>by
 subst GB
 exact pR (h A X ec J s x _ _ ⟨fun d v ai tk e₁ k rp O=>O9 (s:={ s with heap:=ai,toks:=tk+1 }) rp _ _ (po.step (tk:=tk+1) e₁ k) (R.aW aq e₁),po.ex.of⟩ (R.aN aq))
theorem tu.text {x:PySem.Str}{l:List Nat}{k:Nat}{pos:Pos} (e:x.cps.toList=l:=by rfl) (hl:l.length<=16777216:=by decide):tu prog w base cl D n sc j (.Constant (.str x) k pos) .plain (.const (.str l)):=fun A X ec J s at' Q E po aq=>by
 have:=aL.str (prog:=prog) (w:=w) (base:=base) (cl:=cl) (D:=D) (n:=n) (sc:=sc) (j:=j) (fr:=false) (k:=k) (pos:=pos) e hl A X ec J s at'
 exact this Q E po aq
theorem jI.nil:jI prog w base cl D n sc j [] .nil:=fun A X ec J s acc x hl Q E hQ hE aq=>by
 show aK _ _ (mkStr acc) _ _ _
 have:=bu
 exact (wpAny_mkStr (hQ [] acc s.heap s.toks (by rw[Mm]) (.refl _ _) (by simp) (by simp at hl;lia)) (by simp at hl;lia)).g
theorem jI.cons {e:Expr}{r:List Expr}{f:PG}{p:PE}{ps:CF} (h:tu prog w base cl D n sc j e f p) (h':jI prog w base cl D n sc j r ps):jI prog w base cl D n sc j (e::r) (.cons p f ps):=fun A X ec J s acc x hl Q E hQ hE aq=>by
 have e0:gH D (.cons p f ps) J=((ak D p J).bind (O8 f)).bind fun d=>match d with
  | .str l=>R.guard (decide (l.length<=100000)) ((gH D ps J).bind fun t=>.ok (l++t))
  | _=>.stuck:=by
  rw[Mo]
  cases ak D p J with
  | ok v=>show (sO f v).bind _=((sO f v).bind _).bind _;cases sO f v<;>rfl
  | exc z=>rfl
  | stuck=>rfl
 rw[e0] at hQ hE aq
 show aK _ _ (joinParts acc (eval e ec::evalEach r ec)) _ _ _
 rw[joinParts]
 refine aI (h A X ec J s x _ _ ⟨fun d v ai tk e₁ k rp hf=>?_,hE.of⟩ (R.aN aq))
 clear hf
 have ao:=R.aW aq e₁
 obtain⟨l,rfl⟩:∃ l,d=.str l:=by cases d<;>first | exact⟨_,rfl⟩ | exact absurd rfl ao
 dsimp only at ao
 have hg:=R.mK ao
 rw[R.guard,hg,if_pos rfl] at ao
 simp only[decide_eq_true_eq] at hg
 refine cH rp fun y t ey Sb=>?_
 have hy:=str_len ey
 refine eU rfl ?_
 have Vt:(acc++y).cps.toList=acc.cps.toList++l:=by rw[<- ey];exact Array.toList_append
 have hal:(acc++y).length=acc.length+y.length:=str_len (by rw[Vt]) |>.trans (by rw[List.length_append,<- hy];congr 1)
 have hline:=bu
 simp only[List.length_cons] at hl
 dsimp only
 rw[if_neg (by lia)]
 refine h' A X ec J { s with heap:=ai,toks:=tk } (acc++y) (x.kept k) (by lia) Q E (fun Xj out aD bD bK k₂ eo ho=>?_) (fun z bK aD bD q k₂ R8=>?_) (R.aN ao)
 ·refine hQ (l++Xj) out aD bD ?_ (k.trans k₂) (by rw[eo,Vt,List.append_assoc]) ho
  rw[R.bN e₁]
  dsimp only
  rw[R.guard,if_pos (by simpa using hg),bK];rfl
 ·refine hE z bK aD bD ?_ (k.trans k₂) (R8.elder k)
  rw[R.bN e₁]
  dsimp only
  rw[R.guard,if_pos (by simpa using hg),q];rfl
theorem Pa {fr:Bool}{e₁ bK:Expr}{r:List Expr}{pos:Pos}{ps:CF} (h:jI prog w base cl D n sc j (e₁::bK::r) ps) (hl:r.length<=90:=by decide):aL prog w base cl D n fr sc j (.JoinedStr (e₁::bK::r) pos) (.qi ps):=fun A X ec J s x Q E po aq=>by
 rw[Ml] at po aq
 rw[arm_eval_JoinedStr]
 show aK _ _ (joinParts PySem.Str.empty (evalEach (e₁::bK::r) ec)) Q E s
 refine h A X ec J s PySem.Str.empty x (by simp[PySem.Str.empty,PySem.Str.length];lia) Q E (fun l out h' tk e k eo ho=>?_) po.ex.of (R.aN aq)
 refine po.ok (.str l) _ h' _ (by rw[e];rfl) k (c6 _ (by rw[eo];rfl) ?_) fun O=>trivial
 have:out.length=l.length:=str_len (by rw[eo];rfl)
 lia
end
end
section
variable {M:Model}{A:Around}{E:Value->Shared->Prop}{s:Shared}
theorem B9 {e spec te:Value}{b:Bool}{Q:Bool->Shared->Prop} (hi:∀ {Q:Bool->Shared->Prop},Q false s->wpAny M A (isInstance spec (.type "tuple")) Q E s) (hx:∀ {Q:Bool->Shared->Prop},Q true s->wpAny M A (isExcClass spec) Q E s)
  (ht:∀ {Q:Value->Shared->Prop},Q te s->wpAny M A (typeOf e) Q E s) (hs:∀ {Q:Bool->Shared->Prop},Q b s->wpAny M A (isSubtype te spec) Q E s) (h:Q b s):wpAny M A (excMatches e spec) Q E s:=by
 refine wpAny_bind (hi ?_)
 rw[if_neg Bool.false_ne_true]
 refine wpAny_bind (wpAny_pure ?_)
 simp only[List.forIn_cons,List.forIn_nil]
 refine wpAny_bind (wpAny_bind (wpAny_bind (hx ?_)))
 simp only[Bool.not_true,Bool.false_eq_true,if_false]
 refine wpAny_pure (wpAny_pure ?_)
 refine wpAny_bind (ht ?_)
 refine wpAny_bind (wpAny_bind (wpAny_bind (hs ?_)))
 cases b
 ·simp only[Bool.false_eq_true,if_false]
  exact wpAny_pure (wpAny_pure (wpAny_pure h))
 ·simp only[if_true]
  exact wpAny_pure (wpAny_pure (wpAny_pure h))
def pq (h:Heap) (C:Addr) (mro:List Value):Prop:=∃ o cd,h.get? C=some o/\o.cls=.type "type"/\o.data=.cls cd/\cd.mro=mro
theorem Dx {C:Addr}{v:Value}{mro:List Value}{base:Value}{Q:Bool->Shared->Prop} (o:pq s.heap C (v::mro)) (h:Q ((v::mro).contains base) s):wpAny M A (isSubtype (.ref C) base) Q E s:=by
 refine bT o fun o cd zz=>iV zz fun ho hc hd hm=>?_
 refine wpAny_bind (wpAny_bind (wpAny_bind (wpAny_loadPart ho ?_)))
 rw[hd]
 refine wpAny_pure (wpAny_pure ?_)
 dsimp only
 rw[hm,if_neg (by simp)]
 exact wpAny_pure h
theorem tx {C:Addr}{mro:List Value}{Q:Bool->Shared->Prop} (o:pq s.heap C mro) (h:Q false s):wpAny M A (isInstance (.ref C) (.type "tuple")) Q E s:=by
 refine bT o fun o cd zz=>iV zz fun ho hc hd hm=>?_
 have hT:s.TypeIs (.ref C) "type":=⟨o,ho,hc⟩
 exact wpAny_isInstance hT (show isSubtype (.type "type") (.type "tuple")=pure false by rw[isSubtype_type];kernel_rfl) h
theorem Pb {C:Addr}{v:Value}{mro:List Value}{Q:Bool->Shared->Prop} (o:pq s.heap C (v::mro)) (hb:(v::mro).contains (.type "BaseException")=true) (h:Q true s):wpAny M A (isExcClass (.ref C)) Q E s:=by
 refine bT (id o) fun ob cd zz=>iV zz fun ho hc hd hm=>?_
 refine wpAny_bind (m:=isType (.ref C)) (wpAny_bind (wpAny_loadPart ho (wpAny_pure ?_)))
 rw[hd]
 simp only[if_true]
 exact Dx o (by rw[hb];exact h)
theorem gE {T U:String}{Q:Bool->Shared->Prop} (hm:((Manifest.find? T).elim "type" fun x=>x.metatype)=U) (hU:isSubtype (.type U) (.type "tuple")=pure false) (h:Q false s):wpAny M A (isInstance (.type T) (.type "tuple")) Q E s:=by
 refine wpAny_bind (m:=typeOf (.type T)) (wpAny_pure ?_)
 rw[hm]
 exact wpAny_of_eq hU h
theorem wI {T:String}{Q:Bool->Shared->Prop} (hs:isSubtype (.type T) (.type "BaseException")=pure true) (h:Q true s):wpAny M A (isExcClass (.type T)) Q E s:=by
 refine wpAny_bind (m:=isType (.type T)) (wpAny_pure ?_)
 simp only[if_true]
 exact wpAny_of_eq hs h
end
noncomputable def dA:dB->Value
 | .syntax=>.ref 49
 | .value=>.type "ValueError"
 | .bU=>.type "NotImplementedError"
noncomputable def HW:Hc->Value
 | .exception=>.type "Exception"
 | .tD=>.ref 37
 | .tooBig=>.ref 73
 | .kf=>.ref 61
 | .hV=>.ref 24
 | .kL=>.type "ValueError"
 | .notImplemented=>.type "NotImplementedError"
noncomputable def Ca:Nat->List Value
 | 49=>[.ref 49,.ref 24,.type "Exception",.type "BaseException",.type "object"]
 | 24=>[.ref 24,.type "Exception",.type "BaseException",.type "object"]
 | 37=>[.ref 37,.ref 24,.type "Exception",.type "BaseException",.type "object"]
 | 61=>[.ref 61,.ref 49,.ref 24,.type "Exception",.type "BaseException",.type "object"]
 | 73=>[.ref 73,.ref 24,.type "Exception",.type "BaseException",.type "object"]
 | _=>[]
structure Wa (base:Heap):Prop where
 own:∀ C∈[49,24,37,61,73],pq base C (Ca C)
theorem pq.keeps {h h':Heap}{C:Addr}{m:List Value} (o:pq h C m) (k:h.StaysIn h'):pq h' C m:=by
 refine bT o fun o cd zz=>aB zz fun ho r=>?_
 exact⟨o,cd,k _ _ ho,r⟩
section
variable {prog:Program}{w:World}{base:Heap}{A:Around}{E:Value->Shared->Prop}{s:Shared}
theorem Vu {e:Addr}{oe:Obj}{c:Value}{Q:Value->Shared->Prop}{M:Model} (he:s.heap.get? e=some oe) (hc:oe.cls=c) (h:Q c s):wpAny M A (typeOf (.ref e)) Q E s:=by
 subst hc
 exact wpAny_bind (wpAny_loadPart he (wpAny_pure h))
theorem Pg {M:Model}{X:String}{c:Value}{b:Bool}{Q:Bool->Shared->Prop} (e:isSubtype (.type X) c=pure b) (h:Q b s):wpAny M A (isSubtype (.type X) c) Q E s:=wpAny_of_eq e h
theorem Vv (W:Wa base) (st:base.StaysIn s.heap) {M:Model} (hc:Hc):(∀ {Q:Bool->Shared->Prop},Q false s->wpAny M A (isInstance (HW hc) (.type "tuple")) Q E s)/\(∀ {Q:Bool->Shared->Prop},Q true s->wpAny M A (isExcClass (HW hc)) Q E s):=by
 have own:∀ C∈[49,24,37,61,73],(∀ {Q:Bool->Shared->Prop},Q false s->wpAny M A (isInstance (.ref C) (.type "tuple")) Q E s)/\(∀ {Q:Bool->Shared->Prop},Q true s->wpAny M A (isExcClass (.ref C)) Q E s):=fun C hC=>by
  have o:=(W.own C hC).keeps st
  refine⟨fun h=>tx o h,fun h=>?_⟩
  simp only[List.mem_cons,List.not_mem_nil,or_false] at hC
  rcases hC with rfl | rfl | rfl | rfl | rfl<;>exact Pb o (by decide) h
 cases hc
 ·exact⟨fun h=>gE (U:="type") (by kernel_rfl) (by rw[isSubtype_type];kernel_rfl) h,fun h=>wI (by rw[isSubtype_type];kernel_rfl) h⟩
 ·exact own 37 (by decide)
 ·exact own 73 (by decide)
 ·exact own 61 (by decide)
 ·exact own 24 (by decide)
 ·exact⟨fun h=>gE (U:="type") (by kernel_rfl) (by rw[isSubtype_type];kernel_rfl) h,fun h=>wI (by rw[isSubtype_type];kernel_rfl) h⟩
 ·exact⟨fun h=>gE (U:="type") (by kernel_rfl) (by rw[isSubtype_type];kernel_rfl) h,fun h=>wI (by rw[isSubtype_type];kernel_rfl) h⟩
theorem Cd (W:Wa base) (hc:Hc):Dq prog w base dA hc (HW hc):=fun A s x e Q E st ⟨oe,vs,he,Hz,hd⟩ hQ=>by
 obtain⟨h1,h2⟩:=Vv (A:=A) (E:=E) W st (M:=model prog w) hc
 refine B9 h1 h2 (Vu he Hz) (b:=hc.lP x) (fun {Q} h=>?_) hQ
 have o:=(W.own 49 (by decide)).keeps st
 cases x<;>cases hc<;>first
  | exact Dx o h
  | exact Pg (by rw[isSubtype_type];kernel_rfl) h
end
section
variable {prog:Program}{w:World}{base:Heap}{D:Fn->List V->R V}{n:Nat}{sc:Scope}{j:List (PySem.Str × Nat)}{K:Frag}
theorem Ce {A:Around}{P:Prop}{base h₀:Heap}{env:Env}{s:Shared}{X:String}{f:Expr}{as:List Expr}{ks:List Keyword}{cp pos:Pos}{Q:Flow->Shared->Prop}{E:Value->Shared->Prop} (hh:cy A h₀) (G:ExcRaiseFacts X)
  (hf:X≠"frame") (ht:X≠"traceback")
  (hx:aK (model prog w) A (eval (.Call f as ks cp) env) (fun v s₁=>∃ e t tk,v=.ref e/\s₁={ s with heap:=s₁.heap,toks:=tk }/\s₁.heap.get? e=some { cls:=.type X,data:=.fields #[t,.none,.none,.none,.bool false,.none] }/\h₀.get? e=none/\Kept base h₀ s₁.heap/\P) E s)
  (h:P->∀ h' e tk,Kept base h₀ h'->ExcAt false h₀ (.type X) e h'->E (.ref e) { s with heap:=h',toks:=tk }) :
  aK (model prog w) A (exec (.Raise (some (.Call f as ks cp)) none pos) env) Q E s:=by
 show aK (model prog w) A (do standAt pos;raiseStmt env (some (do let v <- eval (.Call f as ks cp) env;standAt pos;pure v)) none) Q E s
 refine au ?_
 refine aI (aw hx fun v s₁ ai=>au (aF ?_))
 refine eA ai fun e t tk zz=>zl zz fun av hs he hn k hP=>?_;clear zz;try clear ai;subst av
 have A7:=G.isExc
 have Vw:=G.plainMeta
 have hT:s₁.TypeIs (.ref e) X:=⟨_,he,rfl⟩
 refine eU rfl ?_
 refine wpAny.g ?_
 refine wpAny_bind (wpAny_holding ?_)
 refine wpAny_bind (wpAny_bind (m:=isType (.ref e)) (wpAny_bind (wpAny_loadPart he (wpAny_pure ?_))))
 simp only[Bool.false_eq_true,if_false]
 refine wpAny_pure ?_
 simp only[Bool.false_eq_true,if_false]
 refine wpAny_bind (wpAny_isInstance hT A7 ?_)
 simp only[if_true]
 refine wpAny_pure ?_
 refine wpAny_bind (m:=isType (.ref e)) (wpAny_bind (wpAny_loadPart he (wpAny_pure ?_)))
 simp only[Bool.false_eq_true,if_false]
 refine wpAny_bind ?_
 refine wpAny_bind (wpAny_typeOf hT ?_)
 refine wpAny_bind (m:=typeOf (.type X)) (wpAny_pure ?_)
 rw[if_pos Vw]
 refine wpAny_pure ?_
 refine lq hh k he rfl (by simpa using hf) (by simpa using ht) rfl hn fun h' k' S7 Tt=>?_
 rw[hs]
 exact h hP h' e tk k' Tt
theorem pN.own {x:PySem.Str}{np pos:Pos} (W:Wd K base) (hk:sc.names.lookup x=some .globalImplicit) (hg:nsIn K mainGlobals x=some (some (.ref 49))) (hq:excIn K 49 [.type "Exception",.type "BaseException",.type "object"] "Exception.__new__"=true) (hd:(x == ("__debug__":PySem.Str))=false) :
  pN prog w base dA D n sc j (.Raise (some (.Name x np)) none pos) .syntax .nil:=fun A X ec J s at' Q E hE aq=>by
 refine kK W.top fun p loose mg mb T=>?_
 obtain⟨bm,N,nm,q,bs,Rx,sn,sub,ab,col,dd,k0,k1,k2,k3,k5,mN,hC,hN,WM,TL⟩:=((own_of_in W.jy T hg hq).keeps at'.cx.stays).obj
 refine wpAny.g (Hg (base:=base) (h₀:=s.heap) at'.cx.held (.refl _ _) PySem.F.excBase_Exception TL hC hN WM (jY W at'.cx.stays at'.ge at'.scope hk hg ⟨rfl,rfl⟩ hd) fun h' e tk k kn hx=>?_)
 exact hE .syntax e h' tk (by rfl) k hx
theorem pN.value {x:PySem.Str}{np pos:Pos} (W:Wd K base) (hk:sc.names.lookup x=some .globalImplicit) (hg:nsIn K mainGlobals x=some none) (hb:bootBuiltins x=some (.type "ValueError")) (hn:x≠"__name__") (hd:(x == ("__debug__":PySem.Str))=false) :
  pN prog w base dA D n sc j (.Raise (some (.Name x np)) none pos) .value .nil:=fun A X ec J s at' Q E hE aq=>by
 refine wpAny.g (kA (base:=base) (h₀:=s.heap) at'.cx.held (.refl _ _) excClass_ValueError (by rw[isSubtype_type];kernel_rfl) (by decide) (by decide) (cJ W at'.cx.stays at'.ge at'.scope hk hg hb ⟨rfl,rfl⟩ hn hd) fun h' e tk k kn hx=>?_)
 exact hE .value e h' tk (by rfl) k hx
theorem pN.bU {x:PySem.Str}{np pos:Pos} (W:Wd K base) (hk:sc.names.lookup x=some .globalImplicit) (hg:nsIn K mainGlobals x=some none) (hb:bootBuiltins x=some (.type "NotImplementedError")) (hn:x≠"__name__") (hd:(x == ("__debug__":PySem.Str))=false) :
  pN prog w base dA D n sc j (.Raise (some (.Name x np)) none pos) .bU .nil:=fun A X ec J s at' Q E hE aq=>by
 refine wpAny.g (kA (base:=base) (h₀:=s.heap) at'.cx.held (.refl _ _) excClass_NotImplementedError (by rw[isSubtype_type];kernel_rfl) (by decide) (by decide) (cJ W at'.cx.stays at'.ge at'.scope hk hg hb ⟨rfl,rfl⟩ hn hd) fun h' e tk k kn hx=>?_)
 exact hE .bU e h' tk (by rfl) k hx
theorem mZ {f1:Bool}{X N I:String}{x:PySem.Str}{np cp pos:Pos}{e:Expr}{p:PE}{z:dB} (W:Wd K base) (F:ExcCallFacts X N I) (G:ExcRaiseFacts X) (Hz:dA z=.type X) (hf:X≠"frame") (ht:X≠"traceback")
  (hk:sc.names.lookup x=some .globalImplicit) (hg:nsIn K mainGlobals x=some none) (hb:bootBuiltins x=some (.type X)) (hn:x≠"__name__") (hd:(x == ("__debug__":PySem.Str))=false)
  (he:aL prog w base dA D n f1 sc j e p) (hs:notStar e=true):pN prog w base dA D n sc j (.Raise (some (.Call (.Name x np) [e] [] cp)) none pos) z (.cons p .nil):=fun A X' ec J s at' Q E hE aq=>by
 have e0:∀ {β:Type} (k:R β),((cS D (.cons p .nil) J).bind fun O=>k)=(ak D p J).bind fun O=>k:=fun k=>by
  rw[pY,CH];cases ak D p J<;>rfl
 have Xk:ak D p J≠.stuck:=fun q=>aq (by rw[pY,q];rfl)
 rw[e0] at hE
 refine Ce (P:=∃ d,ak D p J=.ok d) (h₀:=s.heap) (base:=base) at'.cx.held G hf ht ?_ fun ⟨d,q⟩ h' e₁ tk k hx=>?_
 ·refine dz (cJ W at'.cx.stays at'.ge at'.scope hk hg hb ?_ hn hd).g
  have gg:starEach [e] ec=[(false,eval e ec)]:=aR hs
  rw[gg]
  refine dP rfl (c5 (cR (he A X' ec J s at' _ _ ⟨fun d v ai tk e₁ k rp O=>(spliced_nil ?_).g,hE.of⟩ Xk)))
  refine wpAny.g (wpAny_call_exc F (fun h' bK hm=>?_) (by show 1<=sizeLine;decide))
  obtain⟨t,ht,_⟩:=hm.there
  exact⟨bK,.ref t,tk,rfl,rfl,ht,k.missing hm.new,k.trans (.of_keeps hm.keeps),_,e₁⟩
 ·exact hE z e₁ h' tk (by rw[q];rfl) k (by rw[Hz];exact hx)
end
theorem plainAttrs_bytes:PlainAttrs "bytes":=⟨⟨"bytes.__getattribute__",by rw[typeLookup_type,builtinLookup_eq_fast];kernel_rfl,by decide +kernel⟩,by rw[typeLookup_type,builtinLookup_eq_fast];kernel_rfl⟩
namespace FM
theorem slot_str_encode:Slot "str" (Str.ofString "encode") "str.encode":=
 .of (owner:="str") (n:="encode") (by rw[typeLookup_type,builtinLookup_eq_fast];kernel_rfl) (by decide +kernel) (by decide +kernel) (by decide +kernel)
  (by first | exact .inl (by decide +kernel) | exact .inr (by decide +kernel)) (by rw[isSubtype_type];kernel_rfl)
theorem type_str_encode:typeOf (.builtin "str.encode")=pure (.type "method_descriptor"):=by show builtinType _=_;rw[builtinType_eq_fast];kernel_rfl
theorem slot_str_isdigit:Slot "str" (Str.ofString "isdigit") "str.isdigit":=
 .of (owner:="str") (n:="isdigit") (by rw[typeLookup_type,builtinLookup_eq_fast];kernel_rfl) (by decide +kernel) (by decide +kernel) (by decide +kernel)
  (by first | exact .inl (by decide +kernel) | exact .inr (by decide +kernel)) (by rw[isSubtype_type];kernel_rfl)
theorem type_str_isdigit:typeOf (.builtin "str.isdigit")=pure (.type "method_descriptor"):=by show builtinType _=_;rw[builtinType_eq_fast];kernel_rfl
theorem slot_str_lower:Slot "str" (Str.ofString "lower") "str.lower":=
 .of (owner:="str") (n:="lower") (by rw[typeLookup_type,builtinLookup_eq_fast];kernel_rfl) (by decide +kernel) (by decide +kernel) (by decide +kernel)
  (by first | exact .inl (by decide +kernel) | exact .inr (by decide +kernel)) (by rw[isSubtype_type];kernel_rfl)
theorem type_str_lower:typeOf (.builtin "str.lower")=pure (.type "method_descriptor"):=by show builtinType _=_;rw[builtinType_eq_fast];kernel_rfl
theorem slot_str_split:Slot "str" (Str.ofString "split") "str.split":=
 .of (owner:="str") (n:="split") (by rw[typeLookup_type,builtinLookup_eq_fast];kernel_rfl) (by decide +kernel) (by decide +kernel) (by decide +kernel)
  (by first | exact .inl (by decide +kernel) | exact .inr (by decide +kernel)) (by rw[isSubtype_type];kernel_rfl)
theorem type_str_split:typeOf (.builtin "str.split")=pure (.type "method_descriptor"):=by show builtinType _=_;rw[builtinType_eq_fast];kernel_rfl
theorem slot_str_startswith:Slot "str" (Str.ofString "startswith") "str.startswith":=
 .of (owner:="str") (n:="startswith") (by rw[typeLookup_type,builtinLookup_eq_fast];kernel_rfl) (by decide +kernel) (by decide +kernel) (by decide +kernel)
  (by first | exact .inl (by decide +kernel) | exact .inr (by decide +kernel)) (by rw[isSubtype_type];kernel_rfl)
theorem type_str_startswith:typeOf (.builtin "str.startswith")=pure (.type "method_descriptor"):=by show builtinType _=_;rw[builtinType_eq_fast];kernel_rfl
theorem slot_str_endswith:Slot "str" (Str.ofString "endswith") "str.endswith":=
 .of (owner:="str") (n:="endswith") (by rw[typeLookup_type,builtinLookup_eq_fast];kernel_rfl) (by decide +kernel) (by decide +kernel) (by decide +kernel)
  (by first | exact .inl (by decide +kernel) | exact .inr (by decide +kernel)) (by rw[isSubtype_type];kernel_rfl)
theorem type_str_endswith:typeOf (.builtin "str.endswith")=pure (.type "method_descriptor"):=by show builtinType _=_;rw[builtinType_eq_fast];kernel_rfl
theorem slot_str_find:Slot "str" (Str.ofString "find") "str.find":=
 .of (owner:="str") (n:="find") (by rw[typeLookup_type,builtinLookup_eq_fast];kernel_rfl) (by decide +kernel) (by decide +kernel) (by decide +kernel)
  (by first | exact .inl (by decide +kernel) | exact .inr (by decide +kernel)) (by rw[isSubtype_type];kernel_rfl)
theorem type_str_find:typeOf (.builtin "str.find")=pure (.type "method_descriptor"):=by show builtinType _=_;rw[builtinType_eq_fast];kernel_rfl
theorem slot_str_rfind:Slot "str" (Str.ofString "rfind") "str.rfind":=
 .of (owner:="str") (n:="rfind") (by rw[typeLookup_type,builtinLookup_eq_fast];kernel_rfl) (by decide +kernel) (by decide +kernel) (by decide +kernel)
  (by first | exact .inl (by decide +kernel) | exact .inr (by decide +kernel)) (by rw[isSubtype_type];kernel_rfl)
theorem type_str_rfind:typeOf (.builtin "str.rfind")=pure (.type "method_descriptor"):=by show builtinType _=_;rw[builtinType_eq_fast];kernel_rfl
theorem slot_str_lstrip:Slot "str" (Str.ofString "lstrip") "str.lstrip":=
 .of (owner:="str") (n:="lstrip") (by rw[typeLookup_type,builtinLookup_eq_fast];kernel_rfl) (by decide +kernel) (by decide +kernel) (by decide +kernel)
  (by first | exact .inl (by decide +kernel) | exact .inr (by decide +kernel)) (by rw[isSubtype_type];kernel_rfl)
theorem type_str_lstrip:typeOf (.builtin "str.lstrip")=pure (.type "method_descriptor"):=by show builtinType _=_;rw[builtinType_eq_fast];kernel_rfl
theorem slot_str_join:Slot "str" (Str.ofString "join") "str.join":=
 .of (owner:="str") (n:="join") (by rw[typeLookup_type,builtinLookup_eq_fast];kernel_rfl) (by decide +kernel) (by decide +kernel) (by decide +kernel)
  (by first | exact .inl (by decide +kernel) | exact .inr (by decide +kernel)) (by rw[isSubtype_type];kernel_rfl)
theorem type_str_join:typeOf (.builtin "str.join")=pure (.type "method_descriptor"):=by show builtinType _=_;rw[builtinType_eq_fast];kernel_rfl
theorem slot_bytes_decode:Slot "bytes" (Str.ofString "decode") "bytes.decode":=
 .of (owner:="bytes") (n:="decode") (by rw[typeLookup_type,builtinLookup_eq_fast];kernel_rfl) (by decide +kernel) (by decide +kernel) (by decide +kernel)
  (by first | exact .inl (by decide +kernel) | exact .inr (by decide +kernel)) (by rw[isSubtype_type];kernel_rfl)
theorem type_bytes_decode:typeOf (.builtin "bytes.decode")=pure (.type "method_descriptor"):=by show builtinType _=_;rw[builtinType_eq_fast];kernel_rfl
theorem dS:Slot "bytes" (Str.ofString "isdigit") "bytes.isdigit":=
 .of (owner:="bytes") (n:="isdigit") (by rw[typeLookup_type,builtinLookup_eq_fast];kernel_rfl) (by decide +kernel) (by decide +kernel) (by decide +kernel)
  (by first | exact .inl (by decide +kernel) | exact .inr (by decide +kernel)) (by rw[isSubtype_type];kernel_rfl)
theorem lJ:typeOf (.builtin "bytes.isdigit")=pure (.type "method_descriptor"):=by show builtinType _=_;rw[builtinType_eq_fast];kernel_rfl
theorem eM:Slot "bytes" (Str.ofString "lower") "bytes.lower":=
 .of (owner:="bytes") (n:="lower") (by rw[typeLookup_type,builtinLookup_eq_fast];kernel_rfl) (by decide +kernel) (by decide +kernel) (by decide +kernel)
  (by first | exact .inl (by decide +kernel) | exact .inr (by decide +kernel)) (by rw[isSubtype_type];kernel_rfl)
theorem ot:typeOf (.builtin "bytes.lower")=pure (.type "method_descriptor"):=by show builtinType _=_;rw[builtinType_eq_fast];kernel_rfl
theorem eN:Slot "bytes" (Str.ofString "split") "bytes.split":=
 .of (owner:="bytes") (n:="split") (by rw[typeLookup_type,builtinLookup_eq_fast];kernel_rfl) (by decide +kernel) (by decide +kernel) (by decide +kernel)
  (by first | exact .inl (by decide +kernel) | exact .inr (by decide +kernel)) (by rw[isSubtype_type];kernel_rfl)
theorem ox:typeOf (.builtin "bytes.split")=pure (.type "method_descriptor"):=by show builtinType _=_;rw[builtinType_eq_fast];kernel_rfl
theorem slot_bytes_startswith:Slot "bytes" (Str.ofString "startswith") "bytes.startswith":=
 .of (owner:="bytes") (n:="startswith") (by rw[typeLookup_type,builtinLookup_eq_fast];kernel_rfl) (by decide +kernel) (by decide +kernel) (by decide +kernel)
  (by first | exact .inl (by decide +kernel) | exact .inr (by decide +kernel)) (by rw[isSubtype_type];kernel_rfl)
theorem type_bytes_startswith:typeOf (.builtin "bytes.startswith")=pure (.type "method_descriptor"):=by show builtinType _=_;rw[builtinType_eq_fast];kernel_rfl
theorem slot_bytes_endswith:Slot "bytes" (Str.ofString "endswith") "bytes.endswith":=
 .of (owner:="bytes") (n:="endswith") (by rw[typeLookup_type,builtinLookup_eq_fast];kernel_rfl) (by decide +kernel) (by decide +kernel) (by decide +kernel)
  (by first | exact .inl (by decide +kernel) | exact .inr (by decide +kernel)) (by rw[isSubtype_type];kernel_rfl)
theorem type_bytes_endswith:typeOf (.builtin "bytes.endswith")=pure (.type "method_descriptor"):=by show builtinType _=_;rw[builtinType_eq_fast];kernel_rfl
theorem fe:Slot "bytes" (Str.ofString "find") "bytes.find":=
 .of (owner:="bytes") (n:="find") (by rw[typeLookup_type,builtinLookup_eq_fast];kernel_rfl) (by decide +kernel) (by decide +kernel) (by decide +kernel)
  (by first | exact .inl (by decide +kernel) | exact .inr (by decide +kernel)) (by rw[isSubtype_type];kernel_rfl)
theorem pS:typeOf (.builtin "bytes.find")=pure (.type "method_descriptor"):=by show builtinType _=_;rw[builtinType_eq_fast];kernel_rfl
theorem eO:Slot "bytes" (Str.ofString "rfind") "bytes.rfind":=
 .of (owner:="bytes") (n:="rfind") (by rw[typeLookup_type,builtinLookup_eq_fast];kernel_rfl) (by decide +kernel) (by decide +kernel) (by decide +kernel)
  (by first | exact .inl (by decide +kernel) | exact .inr (by decide +kernel)) (by rw[isSubtype_type];kernel_rfl)
theorem oy:typeOf (.builtin "bytes.rfind")=pure (.type "method_descriptor"):=by show builtinType _=_;rw[builtinType_eq_fast];kernel_rfl
theorem m3:Slot "bytes" (Str.ofString "lstrip") "bytes.lstrip":=
 .of (owner:="bytes") (n:="lstrip") (by rw[typeLookup_type,builtinLookup_eq_fast];kernel_rfl) (by decide +kernel) (by decide +kernel) (by decide +kernel)
  (by first | exact .inl (by decide +kernel) | exact .inr (by decide +kernel)) (by rw[isSubtype_type];kernel_rfl)
theorem m4:typeOf (.builtin "bytes.lstrip")=pure (.type "method_descriptor"):=by show builtinType _=_;rw[builtinType_eq_fast];kernel_rfl
theorem fh:Slot "bytes" (Str.ofString "join") "bytes.join":=
 .of (owner:="bytes") (n:="join") (by rw[typeLookup_type,builtinLookup_eq_fast];kernel_rfl) (by decide +kernel) (by decide +kernel) (by decide +kernel)
  (by first | exact .inl (by decide +kernel) | exact .inr (by decide +kernel)) (by rw[isSubtype_type];kernel_rfl)
theorem pT:typeOf (.builtin "bytes.join")=pure (.type "method_descriptor"):=by show builtinType _=_;rw[builtinType_eq_fast];kernel_rfl
end FM
section
variable {prog:Program}{w:World}{base:Heap}{cl:dB->Value}
theorem pU:iQ prog w base cl (Str.ofString "encode") .encode:=⟨"str.encode",⟨PySem.F.plainAttrs_str,FM.slot_str_encode,FM.type_str_encode⟩,fun A X s l v ds vs hh hu hl r rs=>BZ r rs⟩
theorem oA:iQ prog w base cl (Str.ofString "isdigit") .isdigit:=⟨"str.isdigit",⟨PySem.F.plainAttrs_str,FM.slot_str_isdigit,FM.type_str_isdigit⟩,fun A X s l v ds vs hh hu hl r rs=>.stuck⟩
theorem sx:iQ prog w base cl (Str.ofString "lower") .lower:=⟨"str.lower",⟨PySem.F.plainAttrs_str,FM.slot_str_lower,FM.type_str_lower⟩,fun A X s l v ds vs hh hu hl r rs=>.stuck⟩
theorem sy:iQ prog w base cl (Str.ofString "split") .split:=⟨"str.split",⟨PySem.F.plainAttrs_str,FM.slot_str_split,FM.type_str_split⟩,fun A X s l v ds vs hh hu hl r rs=>HC hl r rs⟩
theorem ka:iQ prog w base cl (Str.ofString "startswith") .startswith:=⟨"str.startswith",⟨PySem.F.plainAttrs_str,FM.slot_str_startswith,FM.type_str_startswith⟩,fun A X s l v ds vs hh hu hl r rs=>.stuck⟩
theorem m5:iQ prog w base cl (Str.ofString "endswith") .endswith:=⟨"str.endswith",⟨PySem.F.plainAttrs_str,FM.slot_str_endswith,FM.type_str_endswith⟩,fun A X s l v ds vs hh hu hl r rs=>.stuck⟩
theorem tA:iQ prog w base cl (Str.ofString "find") .find:=⟨"str.find",⟨PySem.F.plainAttrs_str,FM.slot_str_find,FM.type_str_find⟩,fun A X s l v ds vs hh hu hl r rs=>K9 r rs⟩
theorem sA:iQ prog w base cl (Str.ofString "rfind") .rfind:=⟨"str.rfind",⟨PySem.F.plainAttrs_str,FM.slot_str_rfind,FM.type_str_rfind⟩,fun A X s l v ds vs hh hu hl r rs=>.stuck⟩
theorem pV:iQ prog w base cl (Str.ofString "lstrip") .lstrip:=⟨"str.lstrip",⟨PySem.F.plainAttrs_str,FM.slot_str_lstrip,FM.type_str_lstrip⟩,fun A X s l v ds vs hh hu hl r rs=>BM r rs⟩
theorem tB:iQ prog w base cl (Str.ofString "join") .join:=⟨"str.join",⟨PySem.F.plainAttrs_str,FM.slot_str_join,FM.type_str_join⟩,fun A X s l v ds vs hh hu hl r rs=>K7 hl r rs⟩
theorem m6:iR prog w base cl (Str.ofString "decode") .decode:=⟨"bytes.decode",⟨plainAttrs_bytes,FM.slot_bytes_decode,FM.type_bytes_decode⟩,fun A X s l v ds vs hh hu hl r rs=>wz r rs⟩
theorem lK:iR prog w base cl (Str.ofString "isdigit") .isdigit:=⟨"bytes.isdigit",⟨plainAttrs_bytes,FM.dS,FM.lJ⟩,fun A X s l v ds vs hh hu hl r rs=>ti r rs⟩
theorem oB:iR prog w base cl (Str.ofString "lower") .lower:=⟨"bytes.lower",⟨plainAttrs_bytes,FM.eM,FM.ot⟩,fun A X s l v ds vs hh hu hl r rs=>yV r rs⟩
theorem oE:iR prog w base cl (Str.ofString "split") .split:=⟨"bytes.split",⟨plainAttrs_bytes,FM.eN,FM.ox⟩,fun A X s l v ds vs hh hu hl r rs=>y4 hl r rs⟩
theorem iU:iR prog w base cl (Str.ofString "startswith") .startswith:=⟨"bytes.startswith",⟨plainAttrs_bytes,FM.slot_bytes_startswith,FM.type_bytes_startswith⟩,fun A X s l v ds vs hh hu hl r rs=>om r rs⟩
theorem kb:iR prog w base cl (Str.ofString "endswith") .endswith:=⟨"bytes.endswith",⟨plainAttrs_bytes,FM.slot_bytes_endswith,FM.type_bytes_endswith⟩,fun A X s l v ds vs hh hu hl r rs=>sk r rs⟩
theorem pW:iR prog w base cl (Str.ofString "find") .find:=⟨"bytes.find",⟨plainAttrs_bytes,FM.fe,FM.pS⟩,fun A X s l v ds vs hh hu hl r rs=>BV r rs⟩
theorem oF:iR prog w base cl (Str.ofString "rfind") .rfind:=⟨"bytes.rfind",⟨plainAttrs_bytes,FM.eO,FM.oy⟩,fun A X s l v ds vs hh hu hl r rs=>y0 r rs⟩
theorem m7:iR prog w base cl (Str.ofString "lstrip") .lstrip:=⟨"bytes.lstrip",⟨plainAttrs_bytes,FM.m3,FM.m4⟩,fun A X s l v ds vs hh hu hl r rs=>.stuck⟩
theorem pX:iR prog w base cl (Str.ofString "join") .join:=⟨"bytes.join",⟨plainAttrs_bytes,FM.fh,FM.pT⟩,fun A X s l v ds vs hh hu hl r rs=>B6 hl r rs⟩
noncomputable def Prim.Dy (p:Prim):Bool:=p.casesOn false false false false false false true true false false false false false false false false false false false false
noncomputable def sC:Prim->Option PySem.Str
 | .decode=>some (Str.ofString "decode")
 | .encode=>some (Str.ofString "encode")
 | .endswith=>some (Str.ofString "endswith")
 | .find=>some (Str.ofString "find")
 | .isdigit=>some (Str.ofString "isdigit")
 | .join=>some (Str.ofString "join")
 | .lower=>some (Str.ofString "lower")
 | .lstrip=>some (Str.ofString "lstrip")
 | .rfind=>some (Str.ofString "rfind")
 | .split=>some (Str.ofString "split")
 | .startswith=>some (Str.ofString "startswith")
 | _=>none
theorem Ph {p:Prim}{name:PySem.Str}{ps:fZ} (h:sC p=some name) (hp:p.Dy=true->ps=.nil) :
  ((ps=.nil/\∀ l,bq p [.str l]=.stuck)∨iQ prog w base cl name p)/\((ps=.nil/\∀ l,bq p [.bytes l]=.stuck)∨iR prog w base cl name p):=by
 cases p<;>first | (contradiction;done) | skip
 all_goals obtain rfl:=Option.some.inj h
 ·exact⟨.inr pU,.inl ⟨hp rfl,fun O=>rfl⟩⟩
 ·exact⟨.inl ⟨hp rfl,fun O=>rfl⟩,.inr m6⟩
 ·exact⟨.inr oA,.inr lK⟩
 ·exact⟨.inr sx,.inr oB⟩
 ·exact⟨.inr sy,.inr oE⟩
 ·exact⟨.inr ka,.inr iU⟩
 ·exact⟨.inr m5,.inr kb⟩
 ·exact⟨.inr tA,.inr pW⟩
 ·exact⟨.inr sA,.inr oF⟩
 ·exact⟨.inr pV,.inr m7⟩
 ·exact⟨.inr tB,.inr pX⟩
end
inductive GV
 | val (d:V)
 | fn (f:Fn)
 | builtin (id:String)
 | typ (T:String)
 | own (C:Addr)
noncomputable abbrev Gl:=List (PySem.Str × GV)
noncomputable abbrev Sg:=List (PySem.Str × Nat)
noncomputable def Sp:List Fn:=[.fi,.eE,.iW,.fM,.qe,.bL,.mapped,.iX,.uQ,.uR,.oK,.multi,.iY,.oM,.eY,.qf,.hM,.eQ,.iJ,.iK,.eZ,.gq,.lM,.iZ,.lN,.gF,.bH,.hO,.ke,.qg,.fN,.zt,.gb,.eT,.qh,.law]
theorem Fn.Cg (f:Fn):Sp[f.ctorIdx]?=some f:=by cases f<;>rfl
theorem Fn.same {g f:Fn} (h:Nat.beq g.ctorIdx f.ctorIdx=true):g=f:=Option.some.inj (by rw[<- Fn.Cg g,Nat.eq_of_beq_eq_true h,Fn.Cg])
noncomputable def Qz (a b:Option (List Int)):Bool:=match a with
 | none=>false
 | some x=>match b with
  | none=>false
  | some y=>decide (x=y)
noncomputable def Lq:V->V->Bool
 | .int a,.int b=>decide (a=b)
 | .str a,.str b=>decide (a=b)
 | .bytes a,.bytes b=>decide (a=b)
 | .tuple a,.tuple b=>Qz (eF a) (eF b)
 | _,_=>false
theorem za:∀ {l:List V}{x:List Int},eF l=some x->l=x.map V.int:=by
 intro z0
 induction z0 with
 | nil=>
  intro x h
  injection h with h;subst h;rfl
 | cons d l ih=>
  intro x h
  cases d<;>first | (contradiction;done) | skip
  rw[ql] at h
  cases q:eF l with
  | none=>rw[q] at h;contradiction
  | some y=>rw[q] at h;injection h with h;subst h;rw[ih q];rfl
set_option tactic.hygienic true in
theorem Lr {a b:V} (h:Lq a b=true):a=b:=by
 cases a<;>try (contradiction;done)
 all_goals cases b<;>try (contradiction;done)
 ·rw[of_decide_eq_true h]
 ·rw[of_decide_eq_true h]
 ·rw[of_decide_eq_true h]
 ·rename_i x y
  show V.tuple x=V.tuple y
  replace h:Qz (eF x) (eF y)=true:=h
  cases hx:eF x with
  | none=>rw[hx] at h;contradiction
  | some p=>cases hy:eF y with
   | none=>rw[hx,hy] at h;contradiction
   | some q=>rw[hx,hy] at h;rw[za hx,za hy,of_decide_eq_true h]
noncomputable def cu (sc:Scope) (x:PySem.Str):Bool:=decide (sc.names.lookup x=some .globalImplicit)&&!(x == ("__debug__":PySem.Str))&&decide (x≠"__name__")
noncomputable def sD (x:PySem.Str):Bool:=!(x == ("__debug__":PySem.Str))&&!(x == ("__classdict__":PySem.Str))
noncomputable def isBuiltin (gl:Gl) (x:PySem.Str) (id:String):Bool:=match gl.lookup x with
 | some (.builtin i)=>decide (i=id)
 | _=>false
noncomputable def pv (gl:Gl) (x:PySem.Str) (T:String):Bool:=match gl.lookup x with
 | some (.typ i)=>decide (i=T)
 | _=>false
noncomputable def noStar (es:List Expr):Bool:=es.all notStar
noncomputable def Lv:Prim->Option String
 | .len=>some "len"
 | .ord=>some "ord"
 | .min=>some "min"
 | .max=>some "max"
 | _=>none
noncomputable def Lw:Prim->Option String
 | .str=>some "str"
 | .int=>some "int"
 | .bytes=>some "bytes"
 | _=>none
noncomputable def isName:Expr->Bool
 | .Name _ _=>true
 | _=>false
noncomputable def zb:Expr->Bool
 | .Slice _ _ _ _=>false
 | _=>true
noncomputable def oG:Expr->Bool
 | .Set _ _ _=>false
 | _=>true
noncomputable def m8:Expr->Bool
 | .ListComp _ _ _ _=>false
 | .SetComp _ _ _ _=>false
 | .DictComp _ _ _ _ _=>false
 | _=>true
noncomputable def oH:Expr->Bool
 | .Call (.Name _ _) [] [] _=>false
 | _=>true
noncomputable def uO:Expr->Bool
 | .UnaryOp _ _ _=>false
 | .BoolOp _ _ _=>false
 | .IfExp _ _ _ _=>false
 | .Compare _ _ _ _=>false
 | _=>true
noncomputable def kJ (k:Nat) (scope sc:Scope) (j:Sg):Sg:=j.filter fun z=>decide (z.2≠k)&&decide ((z.1,NameKind.free)∈scope.names)&&decide ((bz scope sc).names.lookup z.1=some .cell)&&decide (j.lookup z.1=some z.2)
noncomputable def jZ (y:PySem.Str) (scope sc:Scope):Bool:=decide (scope.kind=.function)&&scope.names.all (fun z=>decide (z.2≠.cell))&&decide (scope.names.lookup y=some .local) &&
 scope.names.all (fun z=>decide (z.2≠.local)||decide (scope.names.lookup z.1=some .local))&&scope.names.all (fun z=>decide (z.2≠.free)||decide (sc.names.lookup z.1=some .cell))
noncomputable def HX:PE->Bool
 | .const _=>true
 | .bin _ _ _=>true
 | .slice _ _ _=>true
 | .list _=>true
 | .tuple _=>true
 | .comp _ _ _ _=>true
 | .prim .b9 _=>true
 | _=>false
noncomputable def Wb (K:Frag) (fa:Fn->Addr) (x:PySem.Str):GV->Prop
 | .val d=>∃ gv,nsIn K mainGlobals x=some (some gv)/\∀ (g:Addr->Obj->Prop),(∀ a o,K.lookup a=some o->g a o)->Rep g d gv
 | .fn f=>nsIn K mainGlobals x=some (some (.ref (fa f)))/\∃ c d fd sl,K.lookup (fa f)=some ⟨c,d,.func fd,sl⟩
 | .builtin id=>nsIn K mainGlobals x=some none/\bootBuiltins x=some (.builtin id)
 | .typ T=>nsIn K mainGlobals x=some none/\bootBuiltins x=some (.type T)
 | .own C=>nsIn K mainGlobals x=some (some (.ref C))
structure Vx (prog:Program) (w:World) (base:Heap) (D:Fn->List V->R V) (n:Nat) (K:Frag) (fa:Fn->Addr) (gl:Gl):Prop where
 W:Wd K base
 cls:Wa base
 gl:∀ x g,gl.lookup x=some g->Wb K fa x g
 calls:wk prog w base dA D n fa
 exc:excIn K 49 [.type "Exception",.type "BaseException",.type "object"] "Exception.__new__"=true
theorem fX:∀ {es:List Expr}{pos:Pos}{env:Env},noStar es=true->(backTo pos (starEach es env)).any (·.1)=false:=by
 intro z0
 induction z0 with
 | nil=>
  exact fun {pos}{env} _=>rfl
 | cons e r ih=>
  intro pos env h
  unfold noStar at h
  rw[List.all_cons,Bool.and_eq_true] at h
  rw[aR h.1]
  show (false||(backTo pos (starEach r env)).any (·.1))=false
  rw[ih h.2];rfl
theorem iH {e:Expr}{r:List Expr} (h:noStar (e::r)=true):∃ (t:Env->Sem Value) (r':Env->List (Bool × Sem Value)),∀ env,starEach (e::r) env=(false,t env)::r' env:=by
 unfold noStar at h
 rw[List.all_cons,Bool.and_eq_true] at h
 exact⟨_,_,fun env=>aR h.1⟩
theorem Lx {es:List Expr}{pos:Pos}{env:Env} (h:noStar es=true) (hl:es.length<20) :
  ((backTo pos (starEach es env)).all (fun x=>!x.1)&&(backToKw pos (keywordEach [] env)).all (fun x=>x.1.isSome)&&decide (es.length+([]:List Keyword).length+(if ([]:List Keyword).isEmpty then 0 else 1)<30))=true:=by
 have h1:(backTo pos (starEach es env)).all (fun x=>!x.1)=true:=by
  rw[List.all_eq_true]
  have:=fX (pos:=pos) (env:=env) h
  rw[List.any_eq_false] at this
  intro x hx
  simpa using this x hx
 rw[h1]
 exact decide_eq_true (Nat.lt_trans hl (by decide))
theorem sE {o:CmpOp}{e:Expr} (h:(!behindInMarks o e)=true):behindInMarks o e=false:=by simpa using h
theorem Ci {o:Expr}{name:PySem.Str} (h:oH o=true):∀ env whole,attributeBase o name env whole=whole:=by
 intro env whole
 cases o with
 | Call f as ks p=>
  cases f with
  | Name i q=>
   cases as with
   | nil=>
    cases ks with
    | nil=>contradiction
    | cons=>rfl
   | cons=>rfl
  | _=>rfl
 | _=>rfl
theorem HY {e:Expr} (h:zb e=true):∀ o i,∃ ops,subscripted e false o i=operate ops (getItem o i):=by
 intro o i
 cases e<;>first | exact⟨_,rfl⟩ | contradiction
theorem zc {e:Expr}{a:PE} (h:(!a.isName||isName e)=true):a.isName=false∨∀ o r,letTemporaryGo e o r=pure ():=by
 cases q:a.isName with
 | false=>exact .inl rfl
 | true=>
  rw[q] at h
  cases e<;>first | exact .inr fun O O=>rfl | contradiction
theorem set_plain {e:Expr} (h:oG e=true):∀ env x,foldedSetIterable e env x=pure x:=by
 intro env x
 cases e<;>first | rfl | contradiction
theorem Cj {e:Expr} (h:uO e=true):∀ env whole,isTrue e env whole=(do let v <- whole;standAt e.pos;holding [v] (truthy v)):=by
 intro env whole
 cases e<;>first | rfl | contradiction
theorem bw {sc:Scope}{x:PySem.Str} (h:cu sc x=true):sc.names.lookup x=some .globalImplicit/\(x == ("__debug__":PySem.Str))=false/\x≠"__name__":=by
 unfold cu at h
 simp only[Bool.and_eq_true,decide_eq_true_eq,Bool.not_eq_true'] at h
 exact⟨h.1.1,h.1.2,h.2⟩
section
variable {prog:Program}{w:World}{base:Heap}{D:Fn->List V->R V}{n:Nat}{K:Frag}{fa:Fn->Addr}{gl:Gl}
theorem Ck (H:Vx prog w base D n K fa gl) {x:PySem.Str}{T:String} (h:pv gl x T=true):nsIn K mainGlobals x=some none/\bootBuiltins x=some (.type T):=by
 refine H.gl x (.typ T) ?_
 revert h
 unfold pv
 cases gl.lookup x with
 | none=>intro h;contradiction
 | some g=>cases g<;>intro h<;>first | contradiction | exact congrArg (fun i=>some (GV.typ i)) (of_decide_eq_true h)
theorem Cm (H:Vx prog w base D n K fa gl) {x:PySem.Str}{T:String} (h:isBuiltin gl x T=true):nsIn K mainGlobals x=some none/\bootBuiltins x=some (.builtin T):=by
 refine H.gl x (.builtin T) ?_
 revert h
 unfold isBuiltin
 cases gl.lookup x with
 | none=>intro h;contradiction
 | some g=>cases g<;>intro h<;>first | contradiction | exact congrArg (fun i=>some (GV.builtin i)) (of_decide_eq_true h)
theorem Ly {p:Prim}{id:String} (h:Lv p=some id):fc prog w base dA false (.builtin id) p:=by
 cases p<;>first | (contradiction;done) | skip
 all_goals obtain rfl:=Option.some.inj h
 ·exact K1
 ·exact K3
 ·exact Le
 ·exact Lf
theorem Lz {p:Prim}{T:String} (h:Lw p=some T):fc prog w base dA false (.type T) p:=by
 cases p<;>first | (contradiction;done) | skip
 all_goals obtain rfl:=Option.some.inj h
 ·exact K2
 ·exact Li
 ·exact B8 rfl
theorem LB {k:Nat}{scope sc:Scope}{j:Sg}:∀ y i,(kJ k scope sc j).lookup y=some i->j.lookup y=some i/\i≠k/\(y,NameKind.free)∈scope.names/\(bz scope sc).names.lookup y=some .cell:=by
 intro y i h
 have:=lookup_mem h
 unfold kJ at this
 rw[List.mem_filter] at this
 simp only[Bool.and_eq_true,decide_eq_true_eq] at this
 refine b5 this fun O mj h4=>?_;obtain⟨⟨h1,h2⟩,h3⟩:=mj
 exact⟨h4,h1,h2,h3⟩
theorem zf {y:PySem.Str}{scope sc:Scope} (h:jZ y scope sc=true):scope.kind=.function/\(∀ z∈scope.names,z.2≠.cell)/\scope.names.lookup y=some .local/\(∀ z∈scope.names,z.2=.local->scope.names.lookup z.1=some .local)/\
  ∀ z,(z,NameKind.free)∈scope.names->sc.names.lookup z=some .cell:=by
 unfold jZ at h
 simp only[Bool.and_eq_true,decide_eq_true_eq,List.all_eq_true,Bool.or_eq_true] at h
 refine aB h fun mj h5=>?_;obtain⟨⟨⟨h1,h2⟩,h3⟩,h4⟩:=mj
 refine⟨h1,h2,h3,fun z hz q=>(h4 z hz).resolve_left fun e=>e q,fun z hz=>(h5 _ hz).resolve_left fun e=>e rfl⟩
end
structure wJ (gl:Gl) where
 prog:Program
 w:World
 base:Heap
 D:Fn->List V->R V
 n:Nat
 K:Frag
 fa:Fn->Addr
 H:Vx prog w base D n K fa gl
def YE (gl:Gl) (sc:Scope) (j:Sg) (p:PE) (e:Expr):Prop:=∀ (c:wJ gl) (fr:Bool),(fr=true->HX p=true)->aL c.prog c.w c.base dA c.D c.n fr sc j e p
def YP (gl:Gl) (sc:Scope) (j:Sg) (p:PE) (o:Option Expr):Prop:=∀ c:wJ gl,wm c.prog c.w c.base dA c.D c.n sc j o p
def YT (gl:Gl) (sc:Scope) (j:Sg) (p:PE) (e:Expr):Prop:=∀ c:wJ gl,gC c.prog c.w c.base dA c.D c.n sc j e p
def YA (gl:Gl) (op:BoolOp) (sc:Scope) (j:Sg) (p:PE) (es:List Expr):Prop:=∀ c:wJ gl,n9 c.prog c.w c.base dA c.D c.n op sc j es p
def YL (gl:Gl) (sc:Scope) (j:Sg) (ps:fZ) (es:List Expr):Prop:=∀ c:wJ gl,j7 c.prog c.w c.base dA c.D c.n sc j es ps
def Yq (gl:Gl) (sc:Scope) (j:Sg) (ps:CF) (es:List Expr):Prop:=∀ c:wJ gl,jI c.prog c.w c.base dA c.D c.n sc j es ps
def YI (gl:Gl) (sc:Scope) (j:Sg) (it:uT) (e:Expr):Prop:=∀ c:wJ gl,jC c.prog c.w c.base dA c.D c.n sc j e it
def YC (gl:Gl) (sc:Scope) (j:Sg) (p:PE) (es:List Expr):Prop:=∀ c:wJ gl,tg c.prog c.w c.base dA c.D c.n sc j es p
noncomputable abbrev nj (P:Prop):=Option (PLift P)
noncomputable def yes {P:Prop} (h:P):nj P:=some ⟨h⟩
noncomputable def need {α:Type}:(b:Bool)->(b=true->Option α)->Option α
 | true,k=>k rfl
 | false,_=>none
noncomputable def got {α β:Type}:(o:Option α)->(∀ a,o=some a->Option β)->Option β
 | some a,k=>k a rfl
 | none,_=>none
noncomputable def also {P:Prop}{α:Type}:nj P->(P->Option α)->Option α
 | some h,k=>k h.down
 | none,_=>none
noncomputable def either {α:Type}:Option α->Option α->Option α
 | some a,_=>some a
 | none,b=>b
section
variable {gl:Gl}{sc:Scope}{j:Sg}{p a b:PE}{e x y:Expr}
theorem YE.f (h:YE gl sc j p e) (c:wJ gl):aL c.prog c.w c.base dA c.D c.n false sc j e p:=h c false nofun
theorem weak (q:HX p=false) (h:∀ c:wJ gl,aL c.prog c.w c.base dA c.D c.n false sc j e p):YE gl sc j p e:=fun c fr hf=>by
 cases fr
 ·exact h c
 ·rw[hf rfl] at q;contradiction
noncomputable def fZ.isNil:fZ->Bool
 | .nil=>true
 | _=>false
theorem fZ.Sq {as:fZ} (h:as.isNil=true):as=.nil:=by
 cases as with
 | nil=>rfl
 | cons _ _=>contradiction
noncomputable def Xl (gl:Gl) (sc:Scope) (j:Sg):(v:V)->(e:Expr)->nj (YE gl sc j (.const v) e)
 | .none,e=>match e with
  | .Constant .none _ _=>yes fun c fr O=>aL.none
  | _=>none
 | .bool b,e=>match e with
  | .Constant (.bool k) _ _=>need (decide (k=b)) fun h=>yes fun c fr O=>of_decide_eq_true h ▸ aL.bool
  | _=>none
 | .int i,e=>match e with
  | .Constant (.int aaH) _ _=>need (decide (aaH=i)) fun h=>yes fun c fr O=>of_decide_eq_true h ▸ aL.int
  | .UnaryOp .USub (.Constant (.int aaH) _ _) _=>need (decide (i=-aaH)) fun h=>yes fun c fr O=>aL.RP (of_decide_eq_true h)
  | _=>none
 | .str l,e=>match e with
  | .Constant (.str x) _ _=>need (decide (x.cps.toList=l)) fun h=>need (decide (l.length<=1000)) fun h2=>yes fun c fr O=>aL.str (of_decide_eq_true h) (Nat.le_trans (of_decide_eq_true h2) (by decide))
  | _=>none
 | .bytes l,e=>match e with
  | .Constant (.bytes x) _ _=>need (decide (x.map UInt8.toNat=l)) fun h=>need (decide (l.length<=1000)) fun h2=>yes fun c fr O=>aL.bytes (of_decide_eq_true h) (Nat.le_trans (of_decide_eq_true h2) (by decide))
  | _=>none
 | _,_=>none
theorem LC {q:Prim}{as:fZ}{ov:Expr}{name:PySem.Str}{ap pos:Pos}{es:List Expr} (h:(decide (sC q=some name)&&(!q.Dy||es.isEmpty)&&(!es.isEmpty||as.isNil)&&oH ov&&noStar es&&decide (es.length<20)&&(ap.endLine == pos.line))=true) (A:YE gl sc j a ov) (B:YL gl sc j as es) :
  YE gl sc j (.aG q a as) (.Call (.Attribute ov name ap) es [] pos):=weak rfl fun c=>by
 simp only[Bool.and_eq_true,decide_eq_true_eq] at h
 refine aB h fun mj h6=>?_;obtain⟨⟨⟨⟨⟨h1,h2⟩,h0⟩,h3⟩,h4⟩,h5⟩:=mj
 have Vy:es=[]->as=.nil:=fun q=>by
  subst q;exact fZ.Sq h0
 have OY:q.Dy=true->as=.nil:=fun q=>Vy (by
  rw[q] at h2
  exact List.isEmpty_iff.mp h2)
 refine aB (Ph (prog:=c.prog) (w:=c.w) (base:=c.base) (cl:=dA) (ps:=as) h1 OY) fun m1 m2=>?_
 refine OX m1 m2 (A.f c) (B c) (Ci h3) (fun env=>Lx h4 h5) h6 (fun env=>fX h4) ?_
 cases es with
 | nil=>exact .inl ⟨rfl,Vy rfl⟩
 | cons e r=>exact .inr (iH h4)
theorem zg {px:PySem.Str}{z:PySem.Str}{np zp pos:Pos} (h1:cu sc px=true) (h2:(decide (px=Str.ofString "isinstance")&&isBuiltin gl px "isinstance"&&cu sc z&&decide (z=Str.ofString "bytes")&&pv gl z "bytes"&&notStar y)=true) (A:YE gl sc j a y) :
  YE gl sc j (.prim .isBytes (.cons a .nil)) (.Call (.Name px np) [y,.Name z zp] [] pos):=weak rfl fun c=>by
 simp only[Bool.and_eq_true,decide_eq_true_eq] at h2
 refine aB h2 fun mj a4=>?_;obtain⟨⟨⟨⟨rfl,a1⟩,a2⟩,rfl⟩,a3⟩:=mj
 refine aB (Cm c.H a1) fun b1 b2=>?_
 refine aB (Ck c.H a3) fun c1 c2=>?_
 exact B1 c.H.W (bw h1).1 b1 b2 (bw a2).1 c1 c2 (A.f c) a4
theorem LD {px:PySem.Str}{np pos:Pos} (h1:cu sc px=true) (h2:(decide (px=Str.ofString "bytearray")&&pv gl px "bytearray")=true):YE gl sc j (.prim .b9 .nil) (.Call (.Name px np) [] [] pos):=fun c fr O=>by
 simp only[Bool.and_eq_true,decide_eq_true_eq] at h2
 refine aB h2 fun av a1=>?_;try clear h2;subst av
 refine aB (Ck c.H a1) fun c1 c2=>?_
 exact O4 c.H.W (bw h1).1 c1 c2
theorem HZ {q:Prim}{as:fZ}{id:String}{px:PySem.Str}{np pos:Pos}{ys:List Expr} (h0:HX (.prim q as)=false) (h1:cu sc px=true) (h2:noStar (y::ys)=true) (B:YL gl sc j as (y::ys)) (u:gl.lookup px=some (.builtin id)) (v:decide (Lv q=some id)=true) :
  YE gl sc j (.prim q as) (.Call (.Name px np) (y::ys) [] pos):=weak h0 fun c=>by
 refine b5 (bw h1) fun g1 g2 g3=>?_
 refine aB (c.H.gl _ _ u) fun c1 c2=>?_
 exact KZ c.H.W (Ly (of_decide_eq_true v)) g1 c1 c2 (B c) (iH h2) (fun env=>fX h2) g3 g2
theorem H0 {q:Prim}{as:fZ}{T:String}{px:PySem.Str}{np pos:Pos}{ys:List Expr} (h0:HX (.prim q as)=false) (h1:cu sc px=true) (h2:noStar (y::ys)=true) (B:YL gl sc j as (y::ys)) (u:gl.lookup px=some (.typ T)) (v:decide (Lw q=some T)=true) :
  YE gl sc j (.prim q as) (.Call (.Name px np) (y::ys) [] pos):=weak h0 fun c=>by
 refine b5 (bw h1) fun g1 g2 g3=>?_
 refine aB (c.H.gl _ _ u) fun c1 c2=>?_
 exact K0 c.H.W (Lz (of_decide_eq_true v)) g1 c1 c2 (B c) (iH h2) (fun env=>fX h2) g3 g2
theorem LG {f:Fn}{as:fZ}{px:PySem.Str}{np pos:Pos}{ys:List Expr} (h1:cu sc px=true) (h2:noStar (y::ys)=true) (B:YL gl sc j as (y::ys)) (u:gl.lookup px=some (.fn f)):YE gl sc j (.call f as) (.Call (.Name px np) (y::ys) [] pos):=weak rfl fun c=>by
 refine b5 (bw h1) fun g1 g2 g3=>?_
 refine aB (c.H.gl _ _ u) fun e1 e2=>?_
 exact aL.call c.H.W c.H.calls g1 e1 e2 (B c) (iH h2) (fun env=>fX h2) g2
theorem LH {v v':V}{px:PySem.Str}{np:Pos} (h1:cu sc px=true) (u:gl.lookup px=some (.val v')) (h2:Lq v v'=true):YE gl sc j (.glob v) (.Name px np):=weak rfl fun c=>by
 obtain rfl:=Lr h2
 refine Exists.elim (c.H.gl _ _ u) fun gv zz=>aB zz fun e1 e2=>?_
 exact aL.glob c.H.W (bw h1).1 e1 e2 (bw h1).2.1
theorem LJ {elt t:PE}{k:Nat}{it:uT}{px:PySem.Str}{iter:Expr}{ifs:List Expr}{scope:Scope}{np pos:Pos} (h:(jZ px scope sc&&oG iter)=true) (I:YI gl sc j it iter) (E:YE gl (bz scope sc) ((px,k)::kJ k scope sc j) elt x) (C:YC gl (bz scope sc) ((px,k)::kJ k scope sc j) t ifs) :
  YE gl sc j (.comp elt k it t) (.ListComp x [⟨.Name px np,iter,ifs,0⟩] scope pos):=fun c fr O=>by
 rw[Bool.and_eq_true] at h
 refine nk (zf h.1) fun s1 s2 s3 s4 s5=>?_
 exact OJ (I c) (C c) (E.f c) s1 s2 s3 s4 s5 LB (set_plain h.2)
theorem Cp {px:PySem.Str} (h:(decide (px=Str.ofString "range")&&cu sc px&&pv gl px "range")=true) (c:wJ gl):px=Str.ofString "range"/\sc.names.lookup px=some .globalImplicit/\nsIn c.K mainGlobals px=some none/\bootBuiltins px=some (.type "range"):=by
 simp only[Bool.and_eq_true,decide_eq_true_eq] at h
 refine aB (Ck c.H h.2) fun c1 c2=>?_
 exact⟨h.1.1,(bw h.1.2).1,c1,c2⟩
end
structure Lk (gl:Gl) where
 E:(sc:Scope)->(j:Sg)->(p:PE)->(e:Expr)->nj (YE gl sc j p e)
 Co:(sc:Scope)->(j:Sg)->(p:PE)->(es:List Expr)->nj (YC gl sc j p es)
 P:(sc:Scope)->(j:Sg)->(p:PE)->(o:Option Expr)->nj (YP gl sc j p o)
 T:(sc:Scope)->(j:Sg)->(p:PE)->(e:Expr)->nj (YT gl sc j p e)
 A:(op:BoolOp)->(sc:Scope)->(j:Sg)->(p:PE)->(es:List Expr)->nj (YA gl op sc j p es)
 L:(sc:Scope)->(j:Sg)->(ps:fZ)->(es:List Expr)->nj (YL gl sc j ps es)
 Fs:(sc:Scope)->(j:Sg)->(ps:CF)->(es:List Expr)->nj (Yq gl sc j ps es)
 I:(sc:Scope)->(j:Sg)->(it:uT)->(e:Expr)->nj (YI gl sc j it e)
section
variable {gl:Gl}
noncomputable def Xm (L:Lk gl) (sc:Scope) (j:Sg) (p:PE) (e:Expr):nj (YE gl sc j p e):=match p with
  | .const v=>Xl gl sc j v e
  | .glob v=>match e with
   | .Name x _=>need (cu sc x) fun h1=>got (gl.lookup x) fun g u=>match g,u with
    | .val v',u=>need (Lq v v') fun h2=>yes (LH h1 u h2)
    | _,_=>none
   | _=>none
  | .loc i=>match e with
   | .Name x _=>need (decide (j.lookup x=some i)) fun h=>need (!(x == ("__debug__":PySem.Str))) fun h2=>need (!(x == ("__classdict__":PySem.Str))) fun h3=>yes (weak rfl fun c=>aL.loc (of_decide_eq_true h) ((Bool.not_eq_true' _).mp h2) ((Bool.not_eq_true' _).mp h3))
   | _=>none
  | .bin op a b=>match e with
   | .BinOp l o r _=>need (decide (o=op.op)) fun h=>also (L.E sc j a l) fun A=>also (L.E sc j b r) fun B=>yes fun c fr O=>aL.bin (of_decide_eq_true h) (A.f c) (B.f c)
   | _=>none
  | .cmp op a b=>match e with
   | .Compare l [o] [r] _=>need (decide (o=op.op)) fun h=>need (!behindInMarks o r) fun h2=>also (L.E sc j a l) fun A=>also (L.E sc j b r) fun B=>yes fun c fr O=>aL.cmp (of_decide_eq_true h) (sE h2) (A.f c) (B.f c)
   | _=>none
  | .not a=>match e with
   | .UnaryOp .Not x _=>also (L.E sc j a x) fun A=>yes fun c fr O=>aL.not (A.f c)
   | _=>none
  | .and a b=>match e with
   | .BoolOp .And [x,y] _=>also (L.E sc j a x) fun A=>also (L.E sc j b y) fun B=>yes (weak rfl fun c=>aL.and (A.f c) (B.f c))
   | _=>none
  | .or a b=>match e with
   | .BoolOp .Or [x,y] _=>also (L.E sc j a x) fun A=>also (L.E sc j b y) fun B=>yes (weak rfl fun c=>aL.or (A.f c) (B.f c))
   | _=>none
  | .call f as=>match e with
   | .Call (.Name x _) (y::ys) [] _=>need (cu sc x) fun h1=>need (noStar (y::ys)) fun h2=>also (L.L sc j as (y::ys)) fun B=>got (gl.lookup x) fun g u=>match g,u with
    | .fn g,u=>need (Nat.beq g.ctorIdx f.ctorIdx) fun h=>yes (LG h1 h2 B (Fn.same h ▸ u))
    | _,_=>none
   | _=>none
  | .prim q as=>match e with
   | .Call (.Name x _) es [] _=>need (cu sc x) fun h1=>either
    (match q,as,es with
     | .isBytes,.cons a .nil,[y,.Name z _]=>need (decide (x=Str.ofString "isinstance")&&isBuiltin gl x "isinstance"&&cu sc z&&decide (z=Str.ofString "bytes")&&pv gl z "bytes"&&notStar y) fun h2=>also (L.E sc j a y) fun A=>yes (zg h1 h2 A)
     | .b9,.nil,[]=>need (decide (x=Str.ofString "bytearray")&&pv gl x "bytearray") fun h2=>yes (LD h1 h2)
     | _,_,_=>none)
    (match es with
     | y::ys=>need (!HX (.prim q as)) fun h0=>need (noStar (y::ys)) fun h2=>also (L.L sc j as (y::ys)) fun B=>got (gl.lookup x) fun g u=>match g,u with
      | .builtin id,u=>need (decide (Lv q=some id)) fun v=>yes (HZ ((Bool.not_eq_true' _).mp h0) h1 h2 B u v)
      | .typ T,u=>need (decide (Lw q=some T)) fun v=>yes (H0 ((Bool.not_eq_true' _).mp h0) h1 h2 B u v)
      | _,_=>none
     | []=>none)
   | _=>none
  | .aG q o as=>match e with
   | .Call (.Attribute ov name ap) es [] pos=>need (decide (sC q=some name)&&(!q.Dy||es.isEmpty)&&(!es.isEmpty||as.isNil)&&oH ov&&noStar es&&decide (es.length<20)&&(ap.endLine == pos.line)) fun h=>also (L.E sc j o ov) fun A=>also (L.L sc j as es) fun B=>yes (LC h A B)
   | _=>none
  | .idx a i=>match e with
   | .Subscript value slice _=>need (zb slice) fun h=>need (!a.isName||isName value) fun h2=>also (L.E sc j a value) fun A=>also (L.E sc j i slice) fun B=>yes (weak rfl fun c=>aL.idx (A.f c) (B.f c) (HY h) (zc h2))
   | _=>none
  | .slice a lo hi=>match e with
   | .Subscript value (.Slice l u none _) _=>need (!a.isName||isName value) fun h=>also (L.E sc j a value) fun A=>also (L.P sc j lo l) fun B=>also (L.P sc j hi u) fun C=>yes fun c fr O=>aL.slice (A.f c) (B c) (C c) (zc h)
   | _=>none
  | .list es=>match e with
   | .List xs _=>need (decide (es.len<=1000)) fun h=>also (L.L sc j es xs) fun B=>yes fun c fr O=>aL.list (B c) (of_decide_eq_true h)
   | _=>none
  | .tuple es=>match e with
   | .Tuple xs _ _=>need (decide (es.len<=1000)) fun h=>also (L.L sc j es xs) fun B=>yes fun c fr O=>aL.tuple (B c) (of_decide_eq_true h)
   | _=>none
  | .comp elt k it t=>match e with
   | .ListComp x [⟨.Name y _,iter,ifs,0⟩] scope _=>need (jZ y scope sc&&oG iter) fun h=>also (L.I sc j it iter) fun I=>also (L.E (bz scope sc) ((y,k)::kJ k scope sc j) elt x) fun E=>also (L.Co (bz scope sc) ((y,k)::kJ k scope sc j) t ifs) fun C=>yes (LJ h I E C)
   | _=>none
  | .qi fs=>match e with
   | .JoinedStr (a::b::r) _=>need (decide (r.length<=90)) fun h=>also (L.Fs sc j fs (a::b::r)) fun B=>yes (weak rfl fun c=>Pa (B c) (of_decide_eq_true h))
   | _=>none
noncomputable def Vz (L:Lk gl) (sc:Scope) (j:Sg) (p:PE) (es:List Expr):nj (YC gl sc j p es):=match es with
  | []=>match p with
   | .const (.bool true)=>yes fun c=>tg.nil
   | _=>none
  | [t]=>also (L.T sc j p t) fun A=>yes fun c=>tg.one (A c)
  | _=>none
noncomputable def Xn (L:Lk gl) (sc:Scope) (j:Sg) (p:PE) (o:Option Expr):nj (YP gl sc j p o):=match o with
  | none=>match p with
   | .const .none=>yes fun c=>wm.none
   | _=>none
  | some e=>also (L.E sc j p e) fun A=>yes fun c=>wm.some (A.f c)
noncomputable def Xo (L:Lk gl) (sc:Scope) (j:Sg) (p:PE) (e:Expr):nj (YT gl sc j p e):=either
  (match e with
   | .UnaryOp .Not x _=>match p with
    | .not a=>also (L.T sc j a x) fun A=>yes fun c=>gC.not (A c)
    | _=>none
   | .BoolOp op es _=>also (L.A op sc j p es) fun A=>yes fun c=>gC.bool (A c)
   | .Compare l [o] [r] _=>match p with
    | .cmp op a b=>need (decide (o=op.op)) fun h=>need (!behindInMarks o r) fun h2=>also (L.E sc j a l) fun A=>also (L.E sc j b r) fun B=>yes fun c=>gC.cmp (of_decide_eq_true h) (sE h2) (A.f c) (B.f c)
    | _=>none
   | _=>none)
  (need (uO e) fun h=>also (L.E sc j p e) fun A=>yes fun c=>gC.value (A.f c) (Cj h))
noncomputable def Xp (L:Lk gl) (op:BoolOp) (sc:Scope) (j:Sg) (p:PE) (es:List Expr):nj (YA gl op sc j p es):=match es with
  | []=>none
  | e::r=>match r with
   | []=>also (L.T sc j p e) fun A=>yes fun c=>n9.one (A c)
   | f::r=>match op with
    | .And=>match p with
     | .and a b=>also (L.T sc j a e) fun A=>also (L.A .And sc j b (f::r)) fun B=>yes fun c=>n9.and (A c) (B c)
     | _=>none
    | .Or=>match p with
     | .or a b=>also (L.T sc j a e) fun A=>also (L.A .Or sc j b (f::r)) fun B=>yes fun c=>n9.or (A c) (B c)
     | _=>none
noncomputable def Xq (L:Lk gl) (sc:Scope) (j:Sg) (ps:fZ) (es:List Expr):nj (YL gl sc j ps es):=match ps with
  | .nil=>match es with
   | []=>yes fun c=>j7.nil
   | _=>none
  | .cons a as=>match es with
   | e::r=>need (notStar e) fun h=>also (L.E sc j a e) fun A=>also (L.L sc j as r) fun B=>yes fun c=>j7.cons (A.f c) (B c) h
   | _=>none
noncomputable def VA (L:Lk gl) (sc:Scope) (j:Sg) (ps:CF) (es:List Expr):nj (Yq gl sc j ps es):=match ps with
  | .nil=>match es with
   | []=>yes fun c=>jI.nil
   | _=>none
  | .cons p f as=>match es with
   | []=>none
   | e::r=>also (L.Fs sc j as r) fun B=>match f with
    | .plain=>match e with
     | .FormattedValue v (-1) none _=>also (L.E sc j p v) fun A=>yes fun c=>jI.cons (tu.plain (A.f c)) (B c)
     | .Constant (.str x) _ _=>match p with
      | .const (.str l)=>need (decide (x.cps.toList=l)) fun h=>need (decide (l.length<=1000)) fun h2=>yes fun c=>jI.cons (tu.text (of_decide_eq_true h) (Nat.le_trans (of_decide_eq_true h2) (by decide))) (B c)
      | _=>none
     | _=>none
    | .uS=>match e with
     | .FormattedValue v (-1) (some (.JoinedStr [.Constant (.str sp) _ _] _)) _=>need (decide (sp=dR)) fun h=>also (L.E sc j p v) fun A=>yes fun c=>jI.cons (tu.uS (A.f c) (of_decide_eq_true h)) (B c)
     | _=>none
noncomputable def Xr (L:Lk gl) (sc:Scope) (j:Sg) (it:uT) (e:Expr):nj (YI gl sc j it e):=match it with
  | .val p=>also (L.E sc j p e) fun A=>yes fun c=>jC.val (A.f c)
  | .sM lo hi st=>match e with
   | .Call (.Name x _) es [] _=>need (decide (x=Str.ofString "range")&&cu sc x&&pv gl x "range") fun h=>match es with
    | [b]=>match lo with
     | .const (.int 0)=>match st with
      | 1=>need (notStar b) fun h2=>also (L.E sc j hi b) fun B=>yes fun c=>by
        refine iV (Cp h c) fun av g1 c1 c2=>?_;subst av
        exact jC.WX c.H.W g1 c1 c2 (B.f c) h2
      | _=>none
     | _=>none
    | [a,b]=>match st with
     | 1=>need (notStar a) fun h2=>need (notStar b) fun h3=>also (L.E sc j lo a) fun A=>also (L.E sc j hi b) fun B=>yes fun c=>by
        refine iV (Cp h c) fun av g1 c1 c2=>?_;subst av
        exact jC.WW c.H.W g1 c1 c2 (A.f c) (B.f c) h2 h3
     | _=>none
    | [a,b,.Constant (.int 2) _ _]=>match st with
     | 2=>need (notStar a) fun h2=>need (notStar b) fun h3=>also (L.E sc j lo a) fun A=>also (L.E sc j hi b) fun B=>yes fun c=>by
        refine iV (Cp h c) fun av g1 c1 c2=>?_;subst av
        exact jC.WY c.H.W g1 c1 c2 (A.f c) (B.f c) h2 h3
     | _=>none
    | _=>none
   | _=>none
noncomputable def lk (gl:Gl):Nat->Lk gl
 | 0=>⟨fun O O O O=>none,fun O O O O=>none,fun O O O O=>none,fun O O O O=>none,fun O O O O O=>none,fun O O O O=>none,fun O O O O=>none,fun O O O O=>none⟩
 | m+1=>⟨Xm (lk gl m),Vz (lk gl m),Xn (lk gl m),Xo (lk gl m),Xp (lk gl m),Xq (lk gl m),VA (lk gl m),Xr (lk gl m)⟩
end
inductive f9
 | any
 | is (o:Option Nat)
noncomputable def f9.join:f9->f9->f9
 | .any,r=>r
 | r,.any=>r
 | .is a,.is b=>if a=b then .is a else .is none
noncomputable def f9.fits (r:f9) (o:Option Nat):Bool:=match r with
 | .any=>true
 | .is a=>decide (a=o)||decide (o=none)
noncomputable def pw (sc:Scope) (j:Sg) (x:PySem.Str) (i:Nat):Bool:=decide (sc.names.lookup x=some .local)&&decide (j.lookup x=some i)
noncomputable def less (j:Sg) (own:Option Nat):Sg:=match own with
 | none=>j
 | some aaH=>j.filter fun z=>decide (z.2≠aaH)
noncomputable def wK (j:Sg):Bool:=decide (j.map (·.1)).Nodup&&decide (j.map (·.2)).Nodup
noncomputable def wL (t:PySem.Str) (px pos:Pos) (scope:Scope):Bool:=(px.line == pos.line)&&!(scope.names.any fun z=>z.1 == t&&(z.2 == .local||z.2 == .cell))
section
variable {prog:Program}{w:World}{base:Heap}{D:Fn->List V->R V}{n:Nat}{K:Frag}{fa:Fn->Addr}{gl:Gl}{sc:Scope}{j:Sg}
def Yr (prog:Program) (w:World) (base:Heap) (D:Fn->List V->R V) (n:Nat) (sc:Scope) (j:Sg) (own:Option Nat) (r:f9) (s:Stmt) (p:PS):Prop:=match r with
 | .any=>∀ o,bJ prog w base dA D n own o sc j s p
 | .is o=>bJ prog w base dA D n own o sc j s p
def Pj (prog:Program) (w:World) (base:Heap) (D:Fn->List V->R V) (n:Nat) (sc:Scope) (j:Sg) (own:Option Nat) (r:f9) (s:List Stmt) (p:aA):Prop:=match r with
 | .any=>∀ o,bY prog w base dA D n own o sc j s p
 | .is o=>bY prog w base dA D n own o sc j s p
theorem Cq:∀ {j:Sg},(j.map (·.2)).Nodup->∀ {x z:PySem.Str}{i:Nat},j.lookup x=some i->j.lookup z=some i->z=x:=by
 intro j hn x z i h1 h2
 have m1:=lookup_mem h1
 have m2:=lookup_mem h2
 clear h1 h2
 induction j with
 | nil=>cases m1
 | cons p r ih=>
  rw[List.map_cons,List.nodup_cons] at hn
  rcases List.mem_cons.mp m1 with q1 | q1<;>rcases List.mem_cons.mp m2 with q2 | q2
  ·rw[<- q2] at q1;exact (Prod.mk.inj q1).1.symm
  ·exact absurd (List.mem_map.mpr ⟨_,q2,by rw[<- q1]⟩) hn.1
  ·exact absurd (List.mem_map.mpr ⟨_,q1,by rw[<- q2]⟩) hn.1
  ·exact ih hn.2 q1 q2
theorem tC:∀ {j:Sg},(j.map (·.1)).Nodup->∀ {y:PySem.Str}{i:Nat},(y,i)∈j->j.lookup y=some i:=by
 intro z0
 induction z0 with
 | nil=>
  intro _ _ _ h
  contradiction
 | cons p r ih=>
  intro hn y i h
  rw[List.map_cons,List.nodup_cons] at hn
  rw[List.lookup_cons]
  rcases List.mem_cons.mp h with q | q
  ·rw[<- q];simp
  ·have ne:(y == p.1)=false:=by
    rw[beq_eq_false_iff_ne]
    intro e
    exact hn.1 (List.mem_map.mpr ⟨_,q,e⟩)
   rw[ne]
   exact ih hn.2 q
theorem uP (hn:(j.map (·.1)).Nodup) {aaH:Nat}:∀ y k,(less j (some aaH)).lookup y=some k->j.lookup y=some k/\k≠aaH:=fun y k h=>by
 have:=lookup_mem h
 unfold less at this
 rw[List.mem_filter] at this
 exact⟨tC hn this.1,of_decide_eq_true this.2⟩
theorem LK (hn:(j.map (·.1)).Nodup) {own:Option Nat}:∀ y k,(less j own).lookup y=some k->j.lookup y=some k/\∀ aaH,own=some aaH->k≠aaH:=fun y k h=>by
 cases own with
 | none=>exact⟨h,fun aaH q=>by contradiction⟩
 | some aaH=>refine aB (uP hn y k h) fun h1 h2=>?_;exact⟨h1,fun j' q=>by injection q with q;subst q;exact h2⟩
theorem fY {e:Expr} (h:m8 e=true) (t:Option Expr) (l:Nat):∀ env,swapsWith e t l env=pure false:=by
 intro env
 cases e<;>first | rfl | contradiction
theorem H3 {y:PySem.Str}{py pos:Pos}{elt:Expr}{gs:List Comprehension}{scope:Scope}{l:Nat} (h:wL y py pos scope=true) (hk:sc.names.lookup y=some .local) :
  ∀ env:Env,env.scope=sc->env.scope.kind=.function->swapsWith (.ListComp elt gs scope pos) (some (.Name y py)) l env=pure true:=by
 intro env hs hf
 unfold wL at h
 rw[Bool.and_eq_true] at h
 have hb:env.blockKind=.function:=by unfold Env.blockKind;rw[hf];rfl
 have Z7:env.kindOf y=some .local:=by unfold Env.kindOf;rw[hs];exact hk
 show (pure (env.blockKind == .function&&env.kindOf y == some .local&&py.line == pos.line&&!(scope.names.any fun z=>z.1 == y&&(z.2 == .local||z.2 == .cell))):Sem Bool)=pure true
 rw[hb,Z7,h.1,h.2]
 rfl
theorem H4 {elt c:PE}{k:Nat}{it:uT}{J:Ρ}{v:V} (h:ak D (.comp elt k it c) J=.ok v):∃ l,v=.list l:=by
 rw[CG] at h
 cases q:gG D it J with
 | ok xs=>
  rw[q,R.bind,R.guard] at h
  split at h
  ·revert h
   generalize (eG _ _)=r
   intro h
   cases r with
   | ok l=>injection h with h;subst h;exact⟨_,rfl⟩
   | exc x=>contradiction
   | stuck=>contradiction
  ·contradiction
 | exc x=>rw[q] at h;contradiction
 | stuck=>rw[q] at h;contradiction
theorem Pk {elt c:PE}{k i:Nat}{it:uT}{J:Ρ}:bQ D (.assign i (.comp elt k it c)) J=(ak D (.comp elt k it c) J).on J fun v=>match v with | .list _=>.next (J.set i (some v)) | .b9 _=>.next (J.set i (some v)) | _=>.stuck:=by
 rw[zu]
 cases q:ak D (.comp elt k it c) J with
 | ok v=>refine Exists.elim (H4 q) fun l av=>?_;subst av;rfl
 | exc x=>rfl
 | stuck=>rfl
theorem Pl {own:Option Nat}{a b:f9}{x y:List Stmt}{p q:aA} (h1:Pj prog w base D n sc j own a x p) (h2:Pj prog w base D n sc j own b y q):∀ {t:Expr}{c:PE}{pos:Pos},gC prog w base dA D n sc j t c->Yr prog w base D n sc j own (a.join b) (.If t x y pos) (.ite c p q):=by
 intro t c pos ht
 cases a with
 | any=>cases b with
  | any=>exact fun o=>bJ.ite ht (h1 o) (h2 o)
  | is o=>exact bJ.ite ht (h1 o) h2
 | is o=>cases b with
  | any=>exact bJ.ite ht h1 (h2 o)
  | is o'=>
   unfold f9.join
   dsimp only
   by_cases e:o=o'
   ·subst e;rw[if_pos rfl];exact bJ.ite ht h1 h2
   ·rw[if_neg e];exact bJ.ite ht (bY.OO h1) (bY.OO h2)
theorem LM {own:Option Nat}{r:f9}{x:List Stmt}{p:aA} (h:Pj prog w base D n sc j own r x p) (hf:r.fits own=true):bY prog w base dA D n own own sc j x p:=by
 cases r with
 | any=>exact h own
 | is a=>
  unfold f9.fits at hf
  rw[Bool.or_eq_true] at hf
  rcases hf with q | q
  ·rw[<- of_decide_eq_true q] at h ⊢
   have:=of_decide_eq_true q
   subst this
   exact h
  ·have:=of_decide_eq_true q
   subst this
   exact bY.OO h
theorem LN {own:Option Nat}{i:Nat} (h:own≠some i):∀ aaH,own=some aaH->i≠aaH:=fun aaH q e=>h (by rw[q,e])
theorem dH (hs:wK j=true) {x:PySem.Str}{i:Nat} (hl:pw sc j x i=true):sc.names.lookup x=some .local/\j.lookup x=some i/\∀ z,j.lookup z=some i->z=x:=by
 unfold wK at hs
 unfold pw at hl
 simp only[Bool.and_eq_true,decide_eq_true_eq] at hs hl
 exact⟨hl.1,hl.2,fun z q=>Cq hs.2 hl.2 q⟩
theorem Dz (hs:wK j=true):(j.map (·.1)).Nodup:=by
 unfold wK at hs
 simp only[Bool.and_eq_true,decide_eq_true_eq] at hs
 exact hs.1
theorem hG {x:PySem.Str} (q:sD x=true):(x == ("__debug__":PySem.Str))=false/\(x == ("__classdict__":PySem.Str))=false:=by
 unfold sD at q
 simpa only [Bool.and_eq_true,Bool.not_eq_true'] using q
def YS (gl:Gl) (sc:Scope) (j:Sg) (own:Option Nat) (p:PS) (s:Stmt) (r:f9):Prop:=∀ c:wJ gl,Yr c.prog c.w c.base c.D c.n sc j own r s p
def Tc (gl:Gl) (sc:Scope) (j:Sg) (own:Option Nat) (p:aA) (s:List Stmt) (r:f9):Prop:=∀ c:wJ gl,Pj c.prog c.w c.base c.D c.n sc j own r s p
def YR (gl:Gl) (sc:Scope) (j:Sg) (x:dB) (ps:fZ) (s:Stmt):Prop:=∀ c:wJ gl,pN c.prog c.w c.base dA c.D c.n sc j s x ps
def YH (gl:Gl) (sc:Scope) (j:Sg) (hs:Ij) (es:List ExceptHandler):Prop:=∀ c:wJ gl,BI c.prog c.w c.base dA c.D c.n none sc j es hs
noncomputable def Td (P:f9->Prop):=Option (PSigma P)
noncomputable def res {P:f9->Prop} (r:f9) (h:P r):Td P:=some ⟨r,h⟩
noncomputable def with' {P:f9->Prop}{α:Type}:Td P->((r:f9)->P r->Option α)->Option α
 | some h,k=>k h.1 h.2
 | none,_=>none
noncomputable def QB (v:Value) (C:Addr):Bool:=match v with
 | .ref aaG=>decide (C=aaG)
 | _=>false
noncomputable def QC (v:Value) (C:String):Bool:=match v with
 | .type aaG=>decide (C=aaG)
 | _=>false
theorem LP {v:Value}{C:Addr} (h:QB v C=true):v=.ref C:=by
 cases v<;>first | (contradiction;done) | rw[of_decide_eq_true h]
theorem LQ {v:Value}{C:String} (h:QC v C=true):v=.type C:=by
 cases v<;>first | (contradiction;done) | rw[of_decide_eq_true h]
theorem Pm {y:PySem.Str}{yp pos:Pos} (h1:cu sc y=true) (u:gl.lookup y=some (.own 49)):YR gl sc j .syntax .nil (.Raise (some (.Name y yp)) none pos):=fun c=>pN.own c.H.W (bw h1).1 (c.H.gl _ _ u) c.H.exc (bw h1).2.1
theorem H5 {y:PySem.Str}{yp pos:Pos} (h1:cu sc y=true) (u:gl.lookup y=some (.typ "ValueError")):YR gl sc j .value .nil (.Raise (some (.Name y yp)) none pos):=fun c=>pN.value c.H.W (bw h1).1 (c.H.gl _ _ u).1 (c.H.gl _ _ u).2 (bw h1).2.2 (bw h1).2.1
theorem zh {y:PySem.Str}{yp pos:Pos} (h1:cu sc y=true) (u:gl.lookup y=some (.typ "NotImplementedError")):YR gl sc j .bU .nil (.Raise (some (.Name y yp)) none pos):=fun c=>pN.bU c.H.W (bw h1).1 (c.H.gl _ _ u).1 (c.H.gl _ _ u).2 (bw h1).2.2 (bw h1).2.1
theorem Cr {y:PySem.Str}{yp cp pos:Pos}{p:PE}{e:Expr} (h1:cu sc y=true) (hs:notStar e=true) (u:gl.lookup y=some (.typ "ValueError")) (A:YE gl sc j p e):YR gl sc j .value (.cons p .nil) (.Raise (some (.Call (.Name y yp) [e] [] cp)) none pos):=fun c=>
 mZ c.H.W PySem.F.excCall_ValueError PySem.F.excRaise_ValueError rfl (by decide) (by decide) (bw h1).1 (c.H.gl _ _ u).1 (c.H.gl _ _ u).2 (bw h1).2.2 (bw h1).2.1 (A.f c) hs
theorem wM {y:PySem.Str}{yp cp pos:Pos}{p:PE}{e:Expr} (h1:cu sc y=true) (hs:notStar e=true) (u:gl.lookup y=some (.typ "NotImplementedError")) (A:YE gl sc j p e):YR gl sc j .bU (.cons p .nil) (.Raise (some (.Call (.Name y yp) [e] [] cp)) none pos):=fun c=>
 mZ c.H.W PySem.F.excCall_NotImplementedError PySem.F.excRaise_NotImplementedError rfl (by decide) (by decide) (bw h1).1 (c.H.gl _ _ u).1 (c.H.gl _ _ u).2 (bw h1).2.2 (bw h1).2.1 (A.f c) hs
noncomputable def Xu {gl:Gl} (L:Lk gl) (sc:Scope) (j:Sg) (x:dB) (ps:fZ) (st:Stmt):nj (YR gl sc j x ps st):=match st with
 | .Raise (some (.Name y _)) none _=>need (cu sc y) fun h1=>match ps with
  | .nil=>match x with
   | .syntax=>got (gl.lookup y) fun g u=>match g,u with
    | .own C,u=>need (decide (C=49)) fun h=>yes (Pm h1 (of_decide_eq_true h ▸ u))
    | _,_=>none
   | .value=>got (gl.lookup y) fun g u=>match g,u with
    | .typ T,u=>need (decide (T="ValueError")) fun h=>yes (H5 h1 (of_decide_eq_true h ▸ u))
    | _,_=>none
   | .bU=>got (gl.lookup y) fun g u=>match g,u with
    | .typ T,u=>need (decide (T="NotImplementedError")) fun h=>yes (zh h1 (of_decide_eq_true h ▸ u))
    | _,_=>none
  | _=>none
 | .Raise (some (.Call (.Name y _) [e] [] _)) none _=>need (cu sc y) fun h1=>need (notStar e) fun h2=>match ps with
  | .cons p .nil=>also (L.E sc j p e) fun A=>match x with
   | .syntax=>none
   | .value=>got (gl.lookup y) fun g u=>match g,u with
    | .typ T,u=>need (decide (T="ValueError")) fun h=>yes (Cr h1 h2 (of_decide_eq_true h ▸ u) A)
    | _,_=>none
   | .bU=>got (gl.lookup y) fun g u=>match g,u with
    | .typ T,u=>need (decide (T="NotImplementedError")) fun h=>yes (wM h1 h2 (of_decide_eq_true h ▸ u) A)
    | _,_=>none
  | _=>none
 | _=>none
def Z8 (gl:Gl) (sc:Scope) (j:Sg) (x:PySem.Str) (hc:Hc):Prop:=∀ (c:wJ gl) (np:Pos) (A:Around) (X:Addr->Prop) (ec:Env) (J:Ρ) (s:Shared) (Q E:Value->Shared->Prop),At c.base c.n A X none sc j ec J s.heap->Q (HW hc) s->wpAny (model c.prog c.w) A (eval (.Name x np) ec) Q E s
noncomputable def VB (gl:Gl) (sc:Scope) (j:Sg) (x:PySem.Str) (hc:Hc):nj (Z8 gl sc j x hc):=need (cu sc x) fun h1=>got (gl.lookup x) fun g u=>match g,u with
 | .own C,u=>need (QB (HW hc) C) fun h=>yes fun c np A X ec J s Q E a hQ=>jY c.H.W a.cx.stays a.ge a.scope (bw h1).1 (c.H.gl _ _ u) (LP h ▸ hQ) (bw h1).2.1
 | .typ T,u=>need (QC (HW hc) T) fun h=>yes fun c np A X ec J s Q E a hQ=>cJ c.H.W a.cx.stays a.ge a.scope (bw h1).1 (c.H.gl _ _ u).1 (c.H.gl _ _ u).2 (LQ h ▸ hQ) (bw h1).2.2 (bw h1).2.1
 | _,_=>none
def YB (gl:Gl) (sc:Scope) (j:Sg) (i:Nat) (y:PySem.Str) (py:Pos) (p:PE) (v:Expr):Prop:=∀ (c:wJ gl) (own:Option Nat) (pos:Pos) (mQ:PS),(∀ elt k it t,p=.comp elt k it t->∀ J,bQ c.D mQ J=(ak c.D p J).on J fun v=>match v with | .list _=>.next (J.set i (some v)) | .b9 _=>.next (J.set i (some v)) | _=>.stuck)->bJ c.prog c.w c.base dA c.D c.n own (some i) sc j (.Assign [.Name y py] v pos) mQ
theorem H6 {i:Nat}{y:PySem.Str}{py:Pos}{elt t:PE}{k:Nat}{it:uT}{x iter:Expr}{z:PySem.Str}{zp pos:Pos}{ifs:List Expr}{scope:Scope} (hs:wK j=true) (hl:pw sc j y i=true) (h:(wL y py pos scope&&jZ z scope sc&&oG iter)=true) (I:YI gl sc j it iter)
  (E:YE gl (bz scope sc) ((z,k)::kJ k scope sc j) elt x) (C:YC gl (bz scope sc) ((z,k)::kJ k scope sc j) t ifs):YB gl sc j i y py (.comp elt k it t) (.ListComp x [⟨.Name z zp,iter,ifs,0⟩] scope pos):=fun c own ps mQ gg=>by
 simp only[Bool.and_eq_true] at h
 refine nk (zf h.1.2) fun s1 s2 s3 s4 s5=>?_
 refine b5 (dH hs hl) fun l1 l2 l3=>?_
 exact yT (I c) (C c) (E.f c) s1 s2 s3 s4 s5 LB l1 l2 l3 (fun J=>gg _ _ _ _ rfl J) (H3 h.1.1 l1) (set_plain h.2)
noncomputable def DB {gl:Gl} (L:Lk gl) (sc:Scope) (j:Sg) (hs:wK j=true) (i:Nat) (y:PySem.Str) (hl:pw sc j y i=true) (py:Pos) (p:PE) (e:Expr):nj (YB gl sc j i y py p e):=match p with
 | .comp elt k it t=>match e with
  | .ListComp x [⟨.Name z _,iter,ifs,0⟩] scope pos=>need (wL y py pos scope&&jZ z scope sc&&oG iter) fun h=>also (L.I sc j it iter) fun I=>also (L.E (bz scope sc) ((z,k)::kJ k scope sc j) elt x) fun E=>also (L.Co (bz scope sc) ((z,k)::kJ k scope sc j) t ifs) fun C=>yes (H6 hs hl h I E C)
  | _=>none
 | _=>none
end
section
variable {gl:Gl}{sc:Scope}{j:Sg}
theorem sF {own o:Option Nat}{r:f9}{p:PS}{ps:aA}{s:Stmt}{t:List Stmt} (A:YS gl sc j own p s (.is o)) (B:Tc gl sc j o ps t r):Tc gl sc j own (.cons p ps) (s::t) r:=fun c=>by
 cases r with
 | any=>exact fun o'=>bY.cons (A c) (B c o')
 | is o'=>exact bY.cons (A c) (B c)
theorem sG {own:Option Nat}{r:f9}{ps:aA}{t:List Stmt} (B:Tc gl sc j own ps t r) (c:wJ gl):bY c.prog c.w c.base dA c.D c.n own none sc j t ps:=by
 cases r with
 | any=>exact B c none
 | is o=>exact bY.OO (B c)
theorem Cu {own:Option Nat}{o:Option Nat}{p:PS}{s:Stmt} (A:YS gl sc j none p s (.is o)):YS gl sc j own p s (.is o):=fun c=>bJ.freeze (A c)
structure Ls (gl:Gl) (sc:Scope) (j:Sg) where
 S:(own:Option Nat)->(p:PS)->(s:Stmt)->Td (YS gl sc j own p s)
 Ss:(own:Option Nat)->(ps:aA)->(ss:List Stmt)->Td (Tc gl sc j own ps ss)
 H:(ps:Ij)->(es:List ExceptHandler)->nj (YH gl sc j ps es)
noncomputable def Xv (L:Lk gl) (hs:wK j=true) (M:Ls gl sc j) (own:Option Nat) (p:PS) (s:Stmt):Td (YS gl sc j own p s):=match p with
  | .assign i e=>match s with
   | .Assign [.Name x px] v _=>need (pw sc j x i) fun hl=>either
     (also (DB L sc j hs i x hl px e v) fun C=>res (.is (some i)) fun c=>C c _ _ _ fun elt k it t q J=>by subst q;exact Pk)
     (need (m8 v) fun h2=>either
      (match own with
       | none=>none
       | some aaH=>need (decide (i≠aaH)) fun h3=>also (L.E sc (less j (some aaH)) e v) fun A=>res (.is (some aaH)) fun c=>bJ.KN (A.f c) (uP (Dz hs)) (of_decide_eq_true h3) (dH hs hl).1 (dH hs hl).2.1 (dH hs hl).2.2 (fY h2 _ _))
      (also (L.E sc j e v) fun A=>res (.is none) fun c=>bJ.freeze (bJ.assign (A.f c) (dH hs hl).1 (dH hs hl).2.1 (dH hs hl).2.2 (fY h2 _ _))))
   | _=>none
  | .own i e=>match s with
   | .Assign [.Name x px] v _=>need (pw sc j x i) fun hl=>either
     (also (DB L sc j hs i x hl px e v) fun C=>res (.is (some i)) fun c=>C c _ _ _ fun elt k it t q J=>by skip;try rfl)
     (need (m8 v) fun h2=>need (HX e) fun h3=>also (L.E sc j e v) fun A=>res (.is (some i)) fun c=>bJ.build (A c true fun O=>h3) (dH hs hl).1 (dH hs hl).2.1 (dH hs hl).2.2 (fY h2 _ _))
   | _=>none
  | .aug i e=>match s with
   | .AugAssign (.Name x _) .Add v _=>need (pw sc j x i) fun hl=>need (decide (own≠some i)) fun h2=>also (L.E sc j e v) fun A=>res (.is own) fun c=>bJ.aug (A.f c) (dH hs hl).1 (dH hs hl).2.1 (dH hs hl).2.2 (LN (of_decide_eq_true h2))
   | _=>none
  | .setItem i aaH e=>match s with
   | .Assign [.Subscript (.Name x _) ie _] v _=>need (decide (own=some i)) fun h1=>need (decide (j.lookup x=some i)) fun h2=>need (sD x) fun h3=>need (m8 v) fun h4=>also (L.E sc j e v) fun A=>also (L.E sc j aaH ie) fun B=>res (.is none) fun c=>of_decide_eq_true h1 ▸ bJ.setItem (A.f c) (B.f c) (of_decide_eq_true h2) (hG h3).1 (hG h3).2 (fY h4 _ _)
   | _=>none
  | .append i e=>match s with
   | .Expr (.Call (.Attribute (.Name x _) a ap) [v] [] cp) _=>need (decide (a="append")) fun h0=>need (decide (own=some i)) fun h1=>need (decide (j.lookup x=some i)) fun h2=>need (sD x) fun h3=>need (notStar v) fun h4=>need (ap.endLine == cp.line) fun h5=>also (L.E sc j e v) fun A=>res (.is (some i)) fun c=>by
     obtain rfl:=of_decide_eq_true h0
     obtain rfl:=of_decide_eq_true h1
     exact bJ.append (A.f c) (of_decide_eq_true h2) h4 h5 (hG h3).1 (hG h3).2 fun O=>rfl
   | _=>none
  | .push i e=>match s with
   | .Expr (.Call (.Attribute (.Name x _) a ap) [v] [] cp) _=>need (decide (a="append")) fun h0=>need (decide (own=some i)) fun h1=>need (decide (j.lookup x=some i)) fun h2=>need (sD x) fun h3=>need (notStar v) fun h4=>need (ap.endLine == cp.line) fun h5=>also (L.E sc j e v) fun A=>res (.is (some i)) fun c=>by
     obtain rfl:=of_decide_eq_true h0
     obtain rfl:=of_decide_eq_true h1
     exact bJ.push (σ':=j) (A.f c) (of_decide_eq_true h2) h4 h5 (hG h3).1 (hG h3).2 fun O=>rfl
   | _=>none
  | .ite t a b=>match s with
   | .If e x y _=>also (L.T sc j t e) fun T=>with' (M.Ss own a x) fun r A=>with' (M.Ss own b y) fun r' B=>res (r.join r') fun c=>Pl (A c) (B c) (T c)
   | _=>none
  | .while t b=>match s with
   | .While e x [] _=>also (L.T sc j t e) fun T=>with' (M.Ss own b x) fun r A=>need (r.fits own) fun h=>res (.is own) fun c=>bJ.while (T c) (LM (A c) h)
   | _=>none
  | .for i it b=>match s with
   | .For (.Name x _) iter y [] _=>need (pw sc j x i) fun hl=>need (decide (own≠some i)) fun h2=>need (oG iter) fun h3=>also (L.I sc (less j own) it iter) fun I=>with' (M.Ss own b y) fun r A=>need (r.fits own) fun h=>res (.is own) fun c=>bJ.for (I c) (LK (Dz hs)) (LN (of_decide_eq_true h2)) (dH hs hl).1 (dH hs hl).2.1 (dH hs hl).2.2 (LM (A c) h) (set_plain h3)
   | _=>none
  | .ret e=>match s with
   | .Return (some v) _=>also (L.E sc j e v) fun A=>res .any fun c o=>bJ.ret (A.f c)
   | _=>none
  | .raise x as=>also (Xu L sc j x as s) fun A=>res .any fun c o=>bJ.raise (A c)
  | .try b nJ=>match s with
   | .Try y (h::hr) [] [] _=>with' (M.Ss none b y) fun r A=>also (M.H nJ (h::hr)) fun B=>res (.is none) fun c=>bJ.freeze (bJ.try (sG A c) (B c))
   | _=>none
  | .expr e=>match s with
   | .Expr v _=>need (m8 v) fun h=>also (L.E sc j e v) fun A=>res (.is own) fun c=>bJ.expr (A.f c) (fY h _ _)
   | _=>none
noncomputable def VC (L:Lk gl) (M:Ls gl sc j) (own:Option Nat) (ps:aA) (ss:List Stmt):Td (Tc gl sc j own ps ss):=match ps with
  | .nil=>match ss with
   | []=>res (.is own) fun c=>bY.nil
   | _=>none
  | .cons p r=>match ss with
   | []=>none
   | s::t=>either
    (with' (M.S own p s) fun q A=>match q,A with
     | .is o,A=>with' (M.Ss o r t) fun q B=>res q (sF A B)
     | .any,A=>match r with
      | .nil=>match t with
       | []=>res .any fun c o=>bY.cons (A c o) bY.nil
       | _=>none
      | .cons p' r'=>with' (M.Ss none (.cons p' r') t) fun q B=>res q (sF (fun c=>A c none) B))
    (with' (M.S none p s) fun q A=>match q,A with
     | .is o,A=>with' (M.Ss o r t) fun q B=>res q (sF (Cu A) B)
     | .any,_=>none)
noncomputable def Xw (L:Lk gl) (M:Ls gl sc j) (ps:Ij) (es:List ExceptHandler):nj (YH gl sc j ps es):=match ps with
  | .nil=>match es with
   | []=>yes fun c=>OS
   | _=>none
  | .cons k b r=>match es with
   | .ExceptHandler (some (.Name x _)) none (s::t) _::rest=>also (VB gl sc j x k) fun K=>with' (M.Ss none b (s::t)) fun q A=>also (M.H r rest) fun B=>yes fun c=>BI.cons (Cd c.H.cls _) (K c _) (sG A c) (B c)
   | _=>none
noncomputable def ls (L:Lk gl) (hs:wK j=true):Nat->Ls gl sc j
 | 0=>⟨fun O O O=>none,fun O O O=>none,fun O O=>none⟩
 | n+1=>⟨Xv L hs (ls L hs n),VC L (ls L hs n),Xw L (ls L hs n)⟩
end
section
variable {prog:Program}{w:World}{base:Heap}{cl:dB->Value}{A:Around}{X:Addr->Prop}{s:Shared}{D:Fn->List V->R V}{n:Nat}{sc:Scope}{j:List (PySem.Str × Nat)}{K:Frag}
set_option tactic.hygienic true in
theorem pz {d:aY}{ds:List V}{J:Ρ} (Sa:d.defaults=[]) (h:d.start ds=some J):ds.length=d.params/\J=ds.map some++List.replicate (d.locals - d.params) none:=by
 unfold aY.start at h
 rw[Sa] at h
 split at h
 ·rename_i q
  simp at q
  refine⟨by lia,?_⟩
  simpa using h.symm
 ·contradiction
theorem zi {fd:FuncData}{ps:List PySem.Str}{d:aY} (hd:d.params=ps.length) (Sa:d.defaults=[]) (h:∀ vs:List Value,vs.length=ps.length->bindArgs fd ⟨vs,[]⟩=pure (ps.zip vs)):Binds K fd ps d:=fun s g ds vs J jy gg rp=>by
 refine aB (pz Sa gg) fun h1 h2=>?_
 have hl:=rp.length
 exact⟨vs,ds,_,BindsTo.of_eq (h vs (by lia)),by lia,rp,h2⟩
theorem wN {c9:Option Nat}{a:Addr}{fd:FuncData}{body:List Stmt}{gZ H7:PySem.Str}{d:aY} (W:Wd K base) (I:KY K a fd body [gZ,H7] j) (du:fd.scope.names.lookup gZ=some .cell) (pJ:fd.scope.names.lookup H7=some .local) (R9:∀ y,(y,NameKind.cell)∈fd.scope.names->y=gZ)
  (Hz:∀ b,(cellsFrom b fd.scope.names []).lookup gZ=some b) (hd:d.params=2) (Sa:d.defaults=[]) (mE:∀ v u,bindArgs fd ⟨[v,u],[]⟩=pure [(gZ,v),(H7,u)])
  (hb:bY prog w base cl D n none c9 fd.scope j body d.body) (ds:List V) (vs:List Value) (cx:Cx base A s.heap (n+1)) (low:ni X s.heap) (new:∀ a,X a->base.get? a=none) (rp:ay (seen X s.heap) ds vs) :
  kE prog w base cl A X false (call (.ref a) vs []) s (match d.start ds with | some J=>(aj D d.body J).value | none=>.stuck):=by
 cases gg:d.start ds with
 | none=>exact .stuck
 | some J=>
  intro Q E p aq
  refine kK W.top fun Ve loose mg mb T=>?_
  have jy:K.In s.heap:=fun b o q=>cx.stays b o (W.jy b o q)
  refine aB (pz Sa gg) fun AX av=>?_;subst av
  rw[hd] at AX
  obtain⟨iT,yR,rfl⟩:∃ iT yR,ds=[iT,yR]:=by
   match ds,AX with
   | [a,b],_=>exact⟨a,b,rfl⟩
  have S8:=rp
  simp only[dr,cZ] at S8
  obtain⟨BH,r,rfl,r0,VD,r',rfl,r1,rfl⟩:=S8
  refine eA I.here fun oc od V8 hl=>?_
  have Ys:=I.nodup
  have hxx:gZ≠H7:=by
   rw[List.nodup_cons] at Ys
   intro e;exact Ys.1 (by rw[e];exact .head _)
  have OW:(cellsFrom (s.heap.objs.size+1) fd.scope.names []).lookup gZ=some (s.heap.objs.size+1):=Hz _
  refine lr (mF (fd:=fd) (body:=body) (binds:=[(gZ,BH),(H7,VD)]) (by have:=cx.depth;show A.depth<1000;lia) (jy _ _ hl) rfl (T.nolimit.keeps cx.stays) (codeRec_of jy I.code) I.body (mE BH VD) I.closure
   (fun x hx=>by
    simp at hx
    rcases hx with rfl | rfl
    ·exact .inr ⟨du,by rw[OW];rfl⟩
    ·exact .inl pJ) (fun s₁ ic=>?_) I.co I.gen I.kind)
  refine bT ic.toInCall.same fun ai tk av=>?_;subst av
  have ge:Ge (callEnvC fd s.heap.objs.size a):=⟨I.kind,I.globals,I.builtins,fun y hy=>by
   rcases hy with hy | hy
   ·obtain rfl:=R9 y (lookup_mem hy)
    exact⟨_,OW⟩
   ·exact absurd rfl (I.BK _ (lookup_mem hy))⟩
  refine wt (j:=j) (sc:=fd.scope) hb cx low new rfl rfl rfl rfl ge ic.toInCall.ns ic.toInCall.keep rp (fun x i v e1 e2=>?_) p fun q=>aq (by dsimp only;rw[q];rfl)
  have hi:i<2:=by have:=(List.getElem?_eq_some_iff.mp e2).1;simpa using this
  have hx:=I.slots x i e1 hi
  have hk:(callEnvC fd s.heap.objs.size a).kindOf gZ=some .cell:=du
  have Yt:(callEnvC fd s.heap.objs.size a).kindOf H7=some .local:=pJ
  obtain rfl | rfl:i=0∨i=1:=by lia
  ·simp at hx e2
   subst hx;subst e2
   refine .inr ⟨.inl du,s.heap.objs.size+1,OW,?_⟩
   have hc:=ic.cell gZ _ OW
   simp only[bindC,hk,Yt] at hc
   simpa using hc
  ·simp at hx e2
   subst hx;subst e2
   refine .inl ⟨pJ,_,ic.toInCall.ns,?_⟩
   simp only[bindL,hk,Yt]
   simp
noncomputable def eX (K:Frag) (a:Addr):FuncData:=match K.lookup a with
 | some ⟨_,_,.func fd,_⟩=>fd
 | _=>default
def Cv (K:Frag) (gl:Gl) (a:Addr) (ps:List PySem.Str) (j:Sg) (b:aA):Prop:=∃ body,KY K a (eX K a) body ps j/\∀ c:wJ gl,bY c.prog c.w c.base dA c.D c.n none none (eX K a).scope j body b
noncomputable def wO (fd:FuncData):Bool:=decide (fd.globals=mainGlobals)&&decide (fd.builtins=builtinsNs)&&fd.closure.isEmpty&&!fd.scope.isCoroutine&&!fd.scope.isGenerator&&decide (fd.scope.kind=.function)&&fd.scope.names.all (fun z=>decide (z.2≠.free))
noncomputable def wQ (ps:List PySem.Str) (j:Sg):Bool:=j.all (fun z=>decide (ps.length<=z.2)||decide (ps[z.2]?=some z.1))
theorem Pn {K:Frag}{gl:Gl}{a:Addr}{c:_}{d:_}{fd:FuncData}{sl:_}{ps:List PySem.Str}{j:Sg}{b:aA}{body:List Stmt}{r:f9} (q:K.lookup a=some ⟨c,d,.func fd,sl⟩) (qb:fd.body=.stmts body) (h1:codeIn K fd.code fd.qualname=true) (h2:wO fd=true) (h3:decide ps.Nodup=true) (h4:wQ ps j=true) (B:Tc gl fd.scope j none b body r):Cv K gl a ps j b:=by
 have e:eX K a=fd:=by unfold eX;rw[q]
 unfold wO at h2
 unfold wQ at h4
 simp only[Bool.and_eq_true,decide_eq_true_eq,List.all_eq_true,Bool.or_eq_true,Bool.not_eq_true',List.isEmpty_iff] at h2 h4
 refine aB h2 fun mj g8=>?_;obtain⟨⟨⟨⟨⟨g2,g3⟩,g4⟩,g5⟩,g6⟩,g7⟩:=mj
 unfold Cv
 rw[e]
 exact⟨body,⟨⟨_,_,_,q⟩,h1,qb,g2,g3,g4,g5,g6,g7,g8,of_decide_eq_true h3,fun x i e hi=>(h4 _ (lookup_mem e)).resolve_left fun z=>absurd hi (Nat.not_lt.mpr z)⟩,fun c=>sG B c⟩
noncomputable def VF (K:Frag) (gl:Gl) (a:Addr) (ps:List PySem.Str) (j:Sg) (b:aA):nj (Cv K gl a ps j b):=got (K.lookup a) fun o q=>match o,q with
 | ⟨_,_,.func fd,_⟩,q=>match eb:fd.body with
  | .stmts body=>need (codeIn K fd.code fd.qualname) fun h1=>need (wO fd) fun h2=>need (decide ps.Nodup) fun h3=>need (wQ ps j) fun h4=>need (wK j) fun hs=>with' ((ls (sc:=fd.scope) (lk gl 100) hs 100).Ss none b body) fun r B=>yes (Pn q eb h1 h2 h3 h4 B)
  | _=>none
 | _,_=>none
noncomputable def QD (K:Frag) (gl:Gl) (a:Addr) (ps:List PySem.Str) (j:Sg) (b:aA):Bool:=(VF K gl a ps j b).isSome
theorem zj {prog:Program}{w:World}{base:Heap}{D:Fn->List V->R V}{n:Nat}{K:Frag}{fa:Fn->Addr}{gl:Gl} (H:Vx prog w base D n K fa gl) {a:Addr}{ps:List PySem.Str}{j:Sg}{b:aA} (h:QD K gl a ps j b=true) :
  ∃ body,KY K a (eX K a) body ps j/\bY prog w base dA D n none none (eX K a).scope j body b:=by
 refine Exists.elim (Option.isSome_iff_exists.mp h) fun mj O=>?_;obtain⟨body,I,S⟩:=mj
 exact⟨body,I,S ⟨prog,w,base,D,n,K,fa,H⟩⟩
noncomputable def qc (K:Frag) (a:Addr) (ps:List PySem.Str):Bool:=(eX K a).scope.names.all (fun z=>decide (z.2≠.cell))&&ps.all fun x=>decide ((eX K a).scope.names.lookup x=some .local)
theorem sH {K:Frag}{a:Addr}{ps:List PySem.Str} (h:qc K a ps=true):(∀ x∈(eX K a).scope.names,x.2≠.cell)/\∀ x∈ps,(eX K a).scope.names.lookup x=some .local:=by
 unfold qc at h
 simpa only [Bool.and_eq_true,List.all_eq_true,decide_eq_true_eq] using h
noncomputable def Cw (K:Frag) (a:Addr) (x:PySem.Str):Bool:=decide ((eX K a).scope.names.lookup x=some .cell)&&(eX K a).scope.names.all fun z=>decide (z.2≠.cell)||decide (z.1=x)
theorem H8 {K:Frag}{a:Addr}{x:PySem.Str} (h:Cw K a x=true):(eX K a).scope.names.lookup x=some .cell/\∀ y,(y,NameKind.cell)∈(eX K a).scope.names->y=x:=by
 unfold Cw at h
 simp only[Bool.and_eq_true,List.all_eq_true,decide_eq_true_eq,Bool.or_eq_true] at h
 exact⟨h.1,fun y hy=>(h.2 _ hy).resolve_left fun e=>e rfl⟩
def YV (d:V) (v:Value):Prop:=∀ g:Addr->Obj->Prop,Rep g d v
noncomputable def LR:(d:V)->(v:Value)->nj (YV d v)
 | .int i,v=>match v with
  | .int aaH _=>need (decide (aaH=i)) fun h=>yes fun g=>by obtain rfl:=of_decide_eq_true h;skip;exact⟨_,rfl⟩
  | _=>none
 | .str l,v=>match v with
  | .str x _=>need (decide (x.cps.toList=l)) fun h=>need (decide (l.length<=1000)) fun h2=>yes fun g=>by
    have:=of_decide_eq_true h2
    skip;exact⟨_,_,rfl,of_decide_eq_true h,by omega⟩
  | _=>none
 | .bytes l,v=>match v with
  | .bytes x _=>need (decide (x.toList.map UInt8.toNat=l)) fun h=>need (decide (l.length<=1000)) fun h2=>yes fun g=>by
    have:=of_decide_eq_true h2
    skip;exact⟨_,_,rfl,of_decide_eq_true h,by omega⟩
  | _=>none
 | _,_=>none
def Z9 (ds:List V) (vs:List Value):Prop:=∀ g:Addr->Obj->Prop,ay g ds vs
noncomputable def DC:(ds:List V)->(vs:List Value)->nj (Z9 ds vs)
 | [],vs=>match vs with
  | []=>yes fun g=>.nil
  | _=>none
 | d::ds,vs=>match vs with
  | []=>none
  | v::vs=>also (LR d v) fun A=>also (DC ds vs) fun B=>yes fun g=>.cons (A g) (B g)
def Xx (K:Frag) (fa:Fn->Addr) (x:PySem.Str) (g:GV):Prop:=Wb K fa x g
noncomputable def VG (K:Frag) (fa:Fn->Addr) (x:PySem.Str) (g:GV):nj (Xx K fa x g):=got (nsIn K mainGlobals x) fun z q=>match g with
 | .val d=>match z,q with
  | none,_=>none
  | some v,q=>either (also (LR d v) fun A=>yes ⟨_,q,fun g O=>A g⟩)
   (match d with
    | .tuple ds=>match v,q with
     | .ref a,q=>got (K.lookup a) fun o q2=>match o,q2 with
      | ⟨.type T,_,.seq vs _,_⟩,q2=>need (decide (T="tuple")) fun h1=>need (decide (ds.length<=1000)) fun h2=>also (DC ds vs.toList) fun A=>yes ⟨_,q,fun g hg=>by
        obtain rfl:=of_decide_eq_true h1
        have:=of_decide_eq_true h2
        exact⟨_,_,_,_,rfl,hg _ _ q2,rfl,rfl,by omega,A g⟩⟩
      | _,_=>none
     | _,_=>none
    | _=>none)
 | .fn f=>match z,q with
  | some (.ref a),q=>need (decide (a=fa f)) fun h1=>got (K.lookup a) fun o q2=>match o,q2 with
   | ⟨_,_,.func _,_⟩,q2=>yes (by obtain rfl:=of_decide_eq_true h1;exact⟨q,_,_,_,_,q2⟩)
   | _,_=>none
  | _,_=>none
 | .builtin id=>match z,q with
  | none,q=>got (bootBuiltins x) fun v q2=>match v,q2 with
   | .builtin i,q2=>need (decide (i=id)) fun h=>yes ⟨q,of_decide_eq_true h ▸ q2⟩
   | _,_=>none
  | _,_=>none
 | .typ T=>match z,q with
  | none,q=>got (bootBuiltins x) fun v q2=>match v,q2 with
   | .type i,q2=>need (decide (i=T)) fun h=>yes ⟨q,of_decide_eq_true h ▸ q2⟩
   | _,_=>none
  | _,_=>none
 | .own C=>match z,q with
  | some (.ref a),q=>need (decide (a=C)) fun h=>yes (of_decide_eq_true h ▸ q)
  | _,_=>none
noncomputable def Pp (K:Frag) (fa:Fn->Addr) (x:PySem.Str) (g:GV):Bool:=(VG K fa x g).isSome
theorem Pq {K:Frag}{fa:Fn->Addr}{x:PySem.Str}{g:GV} (h:Pp K fa x g=true):Wb K fa x g:=by
 refine Exists.elim (Option.isSome_iff_exists.mp h) fun mj O=>?_;obtain⟨A⟩:=mj
 exact A
theorem QF {K:Frag}{fa:Fn->Addr}{gl:Gl} (h:gl.all (fun z=>Pp K fa z.1 z.2)=true):∀ x g,gl.lookup x=some g->Wb K fa x g:=fun x g e=>by
 rw[List.all_eq_true] at h
 exact Pq (h _ (lookup_mem e))
end
noncomputable def looked (t u:Sem PySem.Fin):Sem PySem.Fin:=do
 let st <- stack
 if st.all fun x=>calm x.1 then t else u
theorem wR {den:Code->Sem PySem.Fin}{prog:Program}{w:World}{s:Shared}{t u:Sem PySem.Fin} (hs:s.asleep) :
  sstep den prog w (.single s ⟨looked t u,.builtin "claim.caller" {},default,[]⟩)=.go (.single s ⟨t,.builtin "claim.caller" {},default,[]⟩):=by
 have e:step den prog w s ⟨looked t u,.builtin "claim.caller" {},default,[]⟩=.go s ⟨if ([(.builtin "claim.caller" {},default)]:List (Code × Pos)).all (fun x=>calm x.1) then t else u,.builtin "claim.caller" {},default,[]⟩:=rfl
 rw[if_pos (by decide +kernel)] at e
 rcases sstep_single den prog w s ⟨looked t u,.builtin "claim.caller" {},default,[]⟩ (by kernel_rfl) hs with q | q
 ·rw[q,e];rfl
 ·rw[e] at q;contradiction
theorem zk {den:Code->Sem PySem.Fin}{prog:Program}{w:World}{s s':Shared}{t u:Sem PySem.Fin}{o:Outcome}{n:Nat} (hs:s.asleep)
  (h:schedN den prog w n (.single s ⟨looked t u,.builtin "claim.caller" {},default,[]⟩)=.halted o s'):∃ m,schedN den prog w m (.single s ⟨t,.builtin "claim.caller" {},default,[]⟩)=.halted o s':=by
 cases n with
 | zero=>contradiction
 | succ n=>
  rw[schedN,wR hs] at h
  exact⟨n,h⟩
theorem wU {c:ClaimW}{tree:List Value->Sem PySem.Fin}{u:Sem PySem.Fin}{defs keeps:List PySem.Str}{writes:Bool}
  (h:c.HoldsOpenBy (fun vs=>⟨looked (tree vs) u,.builtin "claim.caller" {},default,[]⟩) defs keeps writes):c.HoldsOpenBy (fun vs=>⟨tree vs,.builtin "claim.caller" {},default,[]⟩) defs keeps writes:=by
 refine⟨h.1,h.2.1,fun w=>⟨(h.2.2 w).1,fun s hs=>?_⟩⟩
 obtain⟨s₀,a1,a2,s₁,a3,a4,a5,a6,a7⟩:=(h.2.2 w).2 s hs
 refine⟨s₀,a1,a2,s₁,a3,a4,a5,a6,fun args h1 h2 ord h3=>?_⟩
 obtain⟨vs,a0,b1,n,o,s',b2,b3⟩:=a7 args h1 h2 ord h3
 have z:AfterImport (opening c.prog) w s:=hs
 obtain⟨m,hm⟩:=zk (Shared.asleep_of_life (layAllW_rest _ _ _ b1).2.2.2 (Shared.asleep_of_life a3.2.1 (Shared.asleep_of_life (fence_lifeW a1) z.life))) b2
 exact⟨vs,a0,b1,m,o,s',hm,b3⟩
noncomputable def wV (t u:Sem Value):Sem Value:=do
 let st <- stack
 if st.all fun x=>calm x.1 then t else u
theorem sI {Γ:Ctx}{p:Pos}:((Γ.code,p)::Γ.below).all (fun x=>calm x.1)=true↔Calm Γ:=by
 rw[List.all_eq_true]
 exact⟨fun q=>⟨q _ (.head _),fun x hx=>q x (.tail _ hx)⟩,fun q x hx=>by
  rcases List.mem_cons.mp hx with e | e
  ·rw[e];exact q.1
  ·exact q.2 x e⟩
theorem Cy {M:Model}{A:Around}{t u:Sem Value}{s:Shared}{Q:Value->Shared->Prop}{E:Value->Shared->Prop} (ht:aK M A t Q E s) (hu:wpAny M A u Q E s):wpAny M A (wV t u) Q E s:=fun Γ p a=>by
 show Sem.wp M Γ (if ((Γ.code,p)::Γ.below).all (fun x=>calm x.1) then t else u) _ _ _ _
 by_cases q:((Γ.code,p)::Γ.below).all (fun x=>calm x.1)=true
 ·rw[if_pos q]
  exact ht Γ p a (sI.mp q)
 ·rw[if_neg q]
  exact hu Γ p a
theorem H9 {M:Model}{A:Around}{t:Sem Value}{u:Value}{k:Sem PySem.Fin}{s:Shared}{Q:PySem.Fin->Shared->Prop}{E:Value->Shared->Prop} (h:wpAny M A (wV t (pure u)) (fun v s'=>Q (.done (.ret v)) s') E s)
  (hk:aK M A t (fun v s'=>Q (.done (.ret v)) s') E s->aK M A k Q E s):wpAny M A (looked k (ret u)) Q E s:=fun Γ p a=>by
 show Sem.wp M Γ (if ((Γ.code,p)::Γ.below).all (fun x=>calm x.1) then k else ret u) _ _ _ _
 by_cases q:((Γ.code,p)::Γ.below).all (fun x=>calm x.1)=true
 ·rw[if_pos q]
  refine hk (fun Wc p' a' c'=>?_) Γ p a (sI.mp q)
  have h1:Sem.wp M Wc (if ((Wc.code,p')::Wc.below).all (fun x=>calm x.1) then t else pure u) _ _ _ _:=h Wc p' a'
  rw[if_pos (sI.mpr c')] at h1
  exact h1
 ·rw[if_neg q]
  have h1:Sem.wp M Γ (if ((Γ.code,p)::Γ.below).all (fun x=>calm x.1) then t else pure u) _ _ _ _:=h Γ p a
  rw[if_neg q] at h1
  exact h1
abbrev WalkG (q:Program) (loose:List PySem.Str) (XP:(PySem.Str->Option Value)->Heap->Prop) (YP:World->Heap->Prop) (r:RowW) (d:DefRec) (kwd:List (PySem.Str × Expr)):Prop:=
 ∀ (w:World) (s₀ s₁:Shared) (mg mb:PySem.Str->Option Value),Ground q loose r.records XP w s₀ mg mb s₁.heap->YP w s₁.heap->∀ (a:Addr) (o:Obj) (pm cd doc dV kV:Value),s₁.heap.get? a=some o->
  o.data=.func { docDef d.name d.params d.body d.scope pm cd doc with defaults:=dV,kwdefaults:=kV }->s₁.heap.CodeRec cd d.name->Dflts mg s₁.heap d.params kwd dV kV->mg d.name=some (.ref a)->s₁.gens=#[]->
  ∀ (args:List WData) (vals:List Value) (as:List Addr),r.claim.pre args=true->WData.layableAll args=true->ReadsAllW r.records (classAt s₀.heap) s₁.heap vals args as->WellAll w.params s₁.heap vals args->(∀ a∈as,(a == sysModules)=false)->
   aK (model r.prog w) callerA (PySem.call (.ref a) vals) (fun v s'=>GoodWG r.claim (classAt s₀.heap) (ExcName.means s₀.heap) args s₁ (.ok (.ret v)) s')
    (fun e s'=>GoodWG r.claim (classAt s₀.heap) (ExcName.means s₀.heap) args s₁ (.error e) s') s₁/\GoodWG r.claim (classAt s₀.heap) (ExcName.means s₀.heap) args s₁ (.ok (.ret (.bool true))) s₁
theorem Cz {r:OpenRow}{q:Program}{loose:List PySem.Str}{Xt:Shared->Bool}{XP:(PySem.Str->Option Value)->Heap->Prop}{α:Type}{Yf:Shared->α}{Ya:World->α}{YP:World->Heap->Prop}{d:DefRec}{kwd:List (PySem.Str × Expr)}{N:Nat}
  (left:LeftO r.prog q loose Xt Yf Ya N) (hY:∀ w s,Yf s=Ya w->YP w s.heap) (hYk:∀ w h h',YP w h->(∀ b o,h.get? b=some o->h'.get? b=some o)->YP w h')
  (hX:∀ s,Xt s=true->XP (s.heap.nsMap mainGlobals) s.heap) (hXk:∀ mg h h',XP mg h->(∀ b o,h.get? b=some o->h'.get? b=some o)->XP mg h')
  (Sr:defOf q r.name=some (d,kwd)) (hp:r.prog.theDef r.name=some (d.params,d.body,d.scope)) (hk:kwWritten? d.params.kwonlyargs d.params.kw_defaults=some kwd) (hRf:∀ s,Xt s=true->RecFacts r.records s.heap) (hwr:(!r.writes||r.records.isEmpty)=true)
  (k1:r.wellSaid=true) (ok:(chainsOk q&&opensWell r.prog&&(frees r.toRowW&&r.within.isEmpty))=true) (hb:r.prog.bare) (hw:r.toRowW.promised)
  (call:WalkG q loose XP YP r.toRowW d kwd):r.Holds:=by
 refine⟨k1,hw,wU (u:=ret (.bool true)) (open_anyG (r:=r.toRowW) (run:=fun f vs=>wV (PySem.call f vs) (pure (.bool true))) left hY hYk hX hXk hRf hwr ok hb hw (fun vs w s mg f Q E hg hf h=>?_) (fun w s hg G n hn=>?_) fun w s₀ s₁ mg mb G Y args vs as Su hlay L low=>?_)⟩
 ·exact H9 h fun h'=>aI (wpAny_nsGet hg (by rw[hf];exact aw h' fun O O x=>aF x)).g
 ·obtain rfl:n=r.name:=by split at hn<;>simp_all
  exact pinned_of_view hg G Sr hp hk
 ·obtain⟨a,o,pm,cd,doc,dV,kV,h1,h2,h3,h4,h5⟩:=G.fn Sr
  obtain⟨c1,c2⟩:=call w s₀ s₁ mg mb G Y a o pm cd doc dV kV h2 h3 h4 h5 (defOf_name Sr ▸ h1) L.gens args vs as Su hlay L.reads L.well (L.low low)
  exact⟨.ref a,h1,Cy c1 (wpAny_pure c2)⟩
end Mine.Internal
namespace Mine.Internal
noncomputable def fa:Fn->Addr
 | .fi=>82
 | .eE=>87
 | .iW=>94
 | .fM=>99
 | .qe=>106
 | .bL=>114
 | .mapped=>121
 | .iX=>128
 | .uQ=>135
 | .uR=>142
 | .oK=>149
 | .multi=>156
 | .iY=>163
 | .oM=>170
 | .eY=>177
 | .qf=>185
 | .hM=>192
 | .eQ=>199
 | .iJ=>206
 | .iK=>211
 | .eZ=>218
 | .gq=>223
 | .lM=>230
 | .iZ=>237
 | .lN=>244
 | .gF=>249
 | .bH=>256
 | .hO=>263
 | .ke=>268
 | .qg=>275
 | .fN=>282
 | .zt=>289
 | .gb=>294
 | .eT=>301
 | .qh=>308
 | .law=>313
noncomputable def gl:Gl:=([("inet_ntoa_ipv4",.fn .fi),("inet_aton_ipv4",.fn .eE),("canonicalize_ipv4",.fn .iW),("inet_ntoa_ipv6",.fn .fM),("_v4_ending",.fn .qe),("inet_aton_ipv6",.fn .bL),("is_mapped",.fn .mapped),("canonicalize_ipv6",.fn .iX),("inet_pton",.fn .uQ),("inet_ntop",.fn .uR),("af_for_address",.fn .oK),("is_multicast",.fn .multi),("is_address",.fn .iY),("any_for_af",.fn .oM),("canonicalize_inet",.fn .eY),("_law_at",.fn .qf),("_law_groups",.fn .hM),("_law_octets",.fn .eQ),("_law_word",.fn .iJ),("_law_dots",.fn .iK),("_law_pairs",.fn .eZ),("_law_canon",.fn .gq),("_law_quad",.fn .lM),("_law_piece",.fn .iZ),("_law_side",.fn .lN),("_law_read",.fn .gF),("_law_tell",.fn .bH),("_law_by_family",.fn .hO),("_law_text",.fn .ke),("_law_there_and_back",.fn .qg)]:Gl)++([("_law_lengths",.fn .fN),("_law_any",.fn .zt),("_law_dotted",.fn .gb),("_law_spelled",.fn .eT),("_law_free",.fn .qh),("law",.fn .law),("_HEX",.val iL),("_mapped_prefix",.val iM),("AF_INET",.val fB),("AF_INET6",.val eH),("LAW_HEX",.val cN),("LAW_CAPS",.val qn),("LAW_SIGNS",.val dT),("LAW_ROW",.val jJ),("isinstance",.builtin "isinstance"),("len",.builtin "len"),("ord",.builtin "ord"),("min",.builtin "min"),("max",.builtin "max"),("bytes",.typ "bytes"),("bytearray",.typ "bytearray"),("str",.typ "str"),("int",.typ "int"),("range",.typ "range"),("Exception",.typ "Exception"),("ValueError",.typ "ValueError"),("NotImplementedError",.typ "NotImplementedError"),("DnsSyntaxError",.own 49),("DNSException",.own 24),("FormError",.own 37),("UnexpectedEnd",.own 61),("TooBig",.own 73)]:Gl)
noncomputable def nm:Fn->List PySem.Str
 | .fi=>["address"]
 | .eE=>["text","btext","parts","part","b"]
 | .iW=>["text"]
 | .fM=>["address","hex","chunks","i","l","chunk","best_start","best_len","start","last_was_zero","end","current_len","prefix","thex"]
 | .qe=>["btext","k","parts","part"]
 | .bL=>["text","ignore_scope","btext","parts","l","m","b","chunks","seen_empty","canonical","c","_","lc","found","k","high","low"]
 | .mapped=>["address"]
 | .iX=>["text"]
 | .uQ=>["family","text"]
 | .uR=>["family","address"]
 | .oK=>["text"]
 | .multi=>["text","first"]
 | .iY=>["text"]
 | .oM=>["af"]
 | .eY=>["text"]
 | .qf=>["script","place"]
 | .hM=>["script","groups","place","number","kind","shape"]
 | .eQ=>["groups","row","group"]
 | .iJ=>["number","width","signs","word"]
 | .iK=>["numbers"]
 | .eZ=>["groups"]
 | .gq=>["groups","words","size","start"]
 | .lM=>["text","numbers","digits","value","sign","worth"]
 | .iZ=>["piece","value","sign","worth"]
 | .lN=>["text","ends","groups","pieces","place","value","four"]
 | .gF=>["text","cuts","groups","left","right"]
 | .bH=>["way","given","family","told"]
 | .hO=>["family","narrow","wide"]
 | .ke=>["text","family","four","groups","scoped","spots","narrow","plain","wide","kin","known","many","shown"]
 | .qg=>["groups","octets","text"]
 | .fN=>["groups","size","family","turned","octets","narrow","wide"]
 | .zt=>["family","narrow","wide"]
 | .gb=>["number","four","parts","fault","spot"]
 | .eT=>["script","at","groups","kind","one","two","low","high","look","fault","spot","scope","quad","pieces","group","signs","text"]
 | .qh=>["number","rest","text"]
 | .law=>["script","groups","family","size","one","two","free","four","dotted","text","first","second"]
noncomputable def m9 (f:Fn):List PySem.Str:=(nm f).take (defs f).params
noncomputable def Xy (f:Fn):Sg:=(nm f).zipIdx
noncomputable def Yu:Fn->Bool
 | .gF=>true
 | .ke=>true
 | .law=>true
 | .bL=>true
 | _=>false
noncomputable def LS:Data->Option ClassData
 | .cls c=>some c
 | _=>none
noncomputable def Sv:Data->Option (Array Value)
 | .seq vs _=>some vs
 | _=>none
theorem Pr {d:Data}{c:ClassData} (h:LS d=some c):d=.cls c:=by
 cases d<;>first | contradiction | (injection h with h;rw[h])
theorem Pt {d:Data}{vs:Array Value} (h:Sv d=some vs):∃ n,d=.seq vs n:=by
 cases d<;>first | contradiction | (injection h with h;rw[h];exact⟨_,rfl⟩)
noncomputable def Sw (K:Frag) (C:Addr):Bool:=match K.lookup C with
 | some o=>decide (o.cls=.type "type")&&(LS o.data).isSome
 | none=>false
noncomputable def CB (K:Frag) (C:Addr):ClassData:=match K.lookup C with
 | some o=>(LS o.data).getD default
 | none=>default
theorem LV {K:Frag}{base:Heap}{C:Addr}{m:List Value} (jy:K.In base) (h:Sw K C=true) (hm:(CB K C).mro=m):pq base C m:=by
 unfold Sw at h
 unfold CB at hm
 cases q:K.lookup C with
 | none=>rw[q] at h;contradiction
 | some o=>
  rw[q] at h hm
  refine aB (Bool.and_eq_true_iff.mp h) fun h1 h2=>?_
  cases e:LS o.data with
  | none=>rw[e] at h2;contradiction
  | some c=>exact⟨_,_,jy _ _ q,of_decide_eq_true h1,Pr e,(show ((LS o.data).getD default).mro=m from hm) ▸ (by rw[e];rfl)⟩
noncomputable def j0 (K:Frag):Bool:=match K.lookup 107 with
 | some o=>decide ((Sv o.data).map Array.toList=some [.bool false])
 | none=>false
theorem Sx {K:Frag} (h:j0 K=true):∃ o n,K.lookup 107=some o/\o.data=.seq #[.bool false] n:=by
 unfold j0 at h
 cases q:K.lookup 107 with
 | none=>rw[q] at h;contradiction
 | some o=>
  rw[q] at h
  have h:=of_decide_eq_true h
  cases e:Sv o.data with
  | none=>rw[e] at h;contradiction
  | some vs=>
   rw[e] at h
   have h2:vs=#[.bool false]:=Array.toList_inj.mp (Option.some.inj h)
   exact Exists.elim (Pt e) fun n hn=>⟨o,n,rfl,h2 ▸ hn⟩
theorem LW {fd:FuncData}{s:Shared}{p1 p2:Pos}{a1 a2:Option Expr}{oJ:List Expr}{T:Addr}{o:Obj}{n:Nat} (hp:fd.params={ posonlyargs:=[],args:=[{ arg:="text",annotation:=a1,pos:=p1 },{ arg:="ignore_scope",annotation:=a2,pos:=p2 }],vararg:=none,kwonlyargs:=[],kw_defaults:=[],kwarg:=none,defaults:=oJ })
  (hd:fd.defaults=.ref T) (ho:s.heap.get? T=some o) (hs:o.data=.seq #[.bool false] n) (v:Value):BindsTo s fd ⟨[v],[]⟩ [("text",v),("ignore_scope",.bool false)]/\∀ u,BindsTo s fd ⟨[v,u],[]⟩ [("text",v),("ignore_scope",u)]:=by
 cases fd
 simp only at hp hd
 subst hp;subst hd
 exact⟨BindsTo.of_defaults rfl ho hs rfl rfl,fun u=>BindsTo.of_defaults rfl ho hs rfl rfl⟩
theorem CC {α:Type}:∀ {l:List α},l.length<=2->2<=l.length+1->(∃ a,l=[a])∨∃ a b,l=[a,b]
 | [],_,h=>absurd h (by simp)
 | [a],_,_=>.inl ⟨a,rfl⟩
 | [a,b],_,_=>.inr ⟨a,b,rfl⟩
 | _::_::_::_,h,_=>by simp at h
set_option tactic.hygienic true in
theorem Ia {d:aY}{ds:List V}{J:Ρ} (h2:d.params=2) (h1:d.defaults=[.bool false]) (h:d.start ds=some J):(∃ a,ds=[a]/\J=[some a,some (.bool false)]++List.replicate (d.locals - 2) none)∨∃ a b,ds=[a,b]/\J=[some a,some b]++List.replicate (d.locals - 2) none:=by
 unfold aY.start at h
 rw[h2,h1] at h
 split at h
 ·rename_i q
  rcases CC q.1 q.2 with ⟨a,rfl⟩ | ⟨a,b,rfl⟩
  ·exact .inl ⟨a,rfl,(Option.some.inj h).symm⟩
  ·exact .inr ⟨a,b,rfl,(Option.some.inj h).symm⟩
 ·contradiction
theorem Ib {K:Frag}{fd:FuncData}{d:aY}{p1 p2:Pos}{a1 a2:Option Expr}{oJ:List Expr} (hp:fd.params={ posonlyargs:=[],args:=[{ arg:="text",annotation:=a1,pos:=p1 },{ arg:="ignore_scope",annotation:=a2,pos:=p2 }],vararg:=none,kwonlyargs:=[],kw_defaults:=[],kwarg:=none,defaults:=oJ })
  (hd:fd.defaults=.ref 107) (h6:j0 K=true) (h2:d.params=2) (h1:d.defaults=[.bool false]):Binds K fd ["text","ignore_scope"] d:=fun s g ds vs J jy gg rp=>by
 refine bT (Sx h6) fun o n zz=>aB zz fun e1 e2=>?_
 have B:=LW (s:=s) hp hd (jy _ _ e1) e2
 rcases Ia h2 h1 gg with ⟨a,rfl,rfl⟩ | ⟨a,b,rfl,rfl⟩
 ·simp only[dr,cZ] at rp
  refine bT rp fun v r zz=>b5 zz fun av r0 gQ=>?_;clear zz;try clear rp;subst av;subst gQ
  exact⟨[v,.bool false],[a,.bool false],d.locals - 2,(B v).1,rfl,.cons r0 (.cons rfl .nil),rfl⟩
 ·simp only[dr,cZ] at rp
  obtain⟨v,r,rfl,r0,u,r',rfl,r1,rfl⟩:=rp
  exact⟨[v,u],[a,b],d.locals - 2,(B v).2 u,rfl,.cons r0 (.cons r1 .nil),rfl⟩
noncomputable def Pu:Value->Bool
 | .none=>true
 | _=>false
theorem Pw {v:Value} (h:Pu v=true):v=.none:=by cases v<;>first | rfl | contradiction
noncomputable def isRef (a:Addr):Value->Bool
 | .ref b=>decide (b=a)
 | _=>false
theorem LX {a:Addr}{v:Value} (h:isRef a v=true):v=.ref a:=by
 cases v<;>first | (rw[of_decide_eq_true h];done) | contradiction
noncomputable def sJ (p:Arguments) (ps:List PySem.Str):Bool:=p.posonlyargs.isEmpty&&p.vararg.isNone&&p.kwonlyargs.isEmpty&&p.kw_defaults.isEmpty&&p.kwarg.isNone&&decide (p.args.map (·.arg)=ps)
theorem DE {p:Arguments}{ps:List PySem.Str} (h:sJ p ps=true):∃ args oJ,p=⟨[],args,none,[],[],none,oJ⟩/\args.map (·.arg)=ps:=by
 obtain⟨a,b,c,d,e,f,g⟩:=p
 unfold sJ at h
 simp only[Bool.and_eq_true,List.isEmpty_iff,Option.isNone_iff_eq_none,decide_eq_true_eq] at h
 obtain⟨⟨⟨⟨⟨rfl,rfl⟩,rfl⟩,rfl⟩,rfl⟩,h⟩:=h
 exact⟨b,g,rfl,h⟩
noncomputable def DF (fd:FuncData) (x:PySem.Str):Bool:=decide (fd.scope.names.filter (fun z=>z.2 == .cell)=[(x,.cell)])
noncomputable def LY (K:Frag) (f:Fn):Bool:=QD K gl (fa f) (m9 f) (Xy f) (defs f).body&&sJ (eX K (fa f)).params (m9 f) &&
 bif Yu f then (bif Nat.beq f.ctorIdx 5 then qc K (fa f) (m9 f)&&isRef 107 (eX K (fa f)).defaults else Pu (eX K (fa f)).defaults&&DF (eX K (fa f)) ((m9 f).headD "")&&Cw K (fa f) ((m9 f).headD "")&&decide (((m9 f).drop 1).all (fun x=>decide ((eX K (fa f)).scope.names.lookup x=some .local))))
 else qc K (fa f) (m9 f)&&Pu (eX K (fa f)).defaults
noncomputable def Sy (K:Frag) (C:Addr) (m:List Value):Bool:=Sw K C&&decide ((CB K C).mro=m)
noncomputable def VH:List Addr:=[49,24,37,61,73]
noncomputable def LZ (K:Frag):Bool:=gl.all (fun z=>Pp K fa z.1 z.2)&&Sp.all (LY K)&&VH.all (fun C=>Sy K C (Ca C))&&excIn K 49 [.type "Exception",.type "BaseException",.type "object"] "Exception.__new__"&&j0 K
noncomputable def DG (h:Heap):Frag:=(List.range h.objs.size).filterMap fun a=>(h.get? a).map fun o=>(a,o)
set_option tactic.hygienic true in
theorem Px {h:Heap}{a:Addr}{o:Obj}:∀ {l:List Addr},(l.filterMap fun a=>(h.get? a).map fun o=>(a,o)).lookup a=some o->h.get? a=some o:=by
 intro z0
 induction z0 with
 | nil=>
  intro q
  contradiction
 | cons b l ih=>
  intro q
  rw[List.filterMap_cons] at q
  cases e:h.get? b with
  | none=>rw[e] at q;exact ih q
  | some u=>
   rw[e] at q
   change List.lookup a ((b,u)::_)=some o at q
   rw[List.lookup_cons] at q
   split at q
   ·rename_i z;rw[beq_iff_eq.mp z,e,<- q]
   ·exact ih q
theorem iI:∀ (l:List (PySem.Str × NameKind)) (n:Addr) (acc:List (PySem.Str × Addr)),cellsFrom n l acc=cellsFrom n (l.filter fun z=>z.2 == .cell) acc
 | [],_,_=>rfl
 | (x,k)::l,n,acc=>by
  cases q:k == NameKind.cell with
  | true=>rw[cellsFrom,List.filter_cons_of_pos (by exact q),cellsFrom,q];exact iI l _ _
  | false=>rw[cellsFrom,List.filter_cons_of_neg (by rw[q];exact Bool.false_ne_true),q];exact iI l _ _
theorem Ic {fd:FuncData}{x:PySem.Str} (h:DF fd x=true) (b:Addr):(cellsFrom b fd.scope.names []).lookup x=some b:=by
 rw[iI,of_decide_eq_true h]
 show List.lookup x [(x,b)]=some b
 rw[List.lookup_cons,beq_self_eq_true]
def nc (ps:List PySem.Str):Prop:=∀ (fd:FuncData) (args:List Arg) (oJ:List Expr) (vs:List Value),fd.params=⟨[],args,none,[],[],none,oJ⟩->args.map (·.arg)=ps->fd.defaults=.none->vs.length=ps.length->bindArgs fd ⟨vs,[]⟩=pure (ps.zip vs)
noncomputable def wW (fd:FuncData) (args:List Arg) (oJ:List Expr):FuncData:={ fd with params:=⟨[],args,none,[],[],none,oJ⟩,defaults:=.none }
theorem wX {fd:FuncData}{args:List Arg}{oJ:List Expr} (hp:fd.params=⟨[],args,none,[],[],none,oJ⟩) (hd:fd.defaults=.none):fd=wW fd args oJ:=by
 cases fd;cases hp;cases hd;rfl
theorem fK {args:List Arg}{x:PySem.Str}{ps:List PySem.Str} (h:args.map (·.arg)=x::ps):∃ an p t,args=⟨x,an,p⟩::t/\t.map (·.arg)=ps:=by
 cases args with
 | nil=>contradiction
 | cons a t=>cases a;injection h with h zq;subst h zq;exact⟨_,_,_,rfl,rfl⟩
theorem fL {α:Type}{vs:List α}{k:Nat} (h:vs.length=k+1):∃ v t,vs=v::t/\t.length=k:=by
 cases vs with
 | nil=>contradiction
 | cons v t=>exact⟨v,t,rfl,Nat.succ.inj h⟩
theorem ba1 {x:PySem.Str} (h:∀ fd an p oJ v,bindArgs (wW fd [⟨x,an,p⟩] oJ) ⟨[v],[]⟩=pure [(x,v)]):nc [x]:=fun fd args oJ vs hp ha hd hl=>by
 rw[wX hp hd]
 refine eA (fK ha) fun an p t zz=>aB zz fun av h1=>?_;clear zz;subst av
 obtain rfl:=List.map_eq_nil_iff.mp h1
 refine bT (fL hl) fun v l zz=>aB zz fun av h2=>?_;clear zz;subst av
 obtain rfl:=List.length_eq_zero_iff.mp h2
 exact h fd an p oJ v
theorem ba2 {x y:PySem.Str} (h:∀ fd an p Sz p' oJ v u,bindArgs (wW fd [⟨x,an,p⟩,⟨y,Sz,p'⟩] oJ) ⟨[v,u],[]⟩=pure [(x,v),(y,u)]):nc [x,y]:=fun fd args oJ vs hp ha hd hl=>by
 rw[wX hp hd]
 refine eA (fK ha) fun an p t zz=>aB zz fun av h1=>?_;clear zz;subst av
 refine eA (fK h1) fun Sz p' t zz=>aB zz fun av h5=>?_;clear zz;subst av
 obtain rfl:=List.map_eq_nil_iff.mp h5
 refine bT (fL hl) fun v l zz=>aB zz fun av h2=>?_;clear zz;subst av
 refine bT (fL h2) fun u l zz=>aB zz fun av h3=>?_;clear zz;subst av
 obtain rfl:=List.length_eq_zero_iff.mp h3
 exact h fd an p Sz p' oJ v u
theorem ba3 {x y z:PySem.Str} (h:∀ fd an p Sz p' L0 di oJ v u r,bindArgs (wW fd [⟨x,an,p⟩,⟨y,Sz,p'⟩,⟨z,L0,di⟩] oJ) ⟨[v,u,r],[]⟩=pure [(x,v),(y,u),(z,r)]):nc [x,y,z]:=fun fd args oJ vs hp ha hd hl=>by
 rw[wX hp hd]
 refine eA (fK ha) fun an p t zz=>aB zz fun av h1=>?_;clear zz;subst av
 refine eA (fK h1) fun Sz p' t zz=>aB zz fun av h5=>?_;clear zz;subst av
 refine eA (fK h5) fun L0 di t zz=>aB zz fun av h6=>?_;clear zz;subst av
 obtain rfl:=List.map_eq_nil_iff.mp h6
 refine bT (fL hl) fun v l zz=>aB zz fun av h2=>?_;clear zz;subst av
 refine bT (fL h2) fun u l zz=>aB zz fun av h3=>?_;clear zz;subst av
 refine bT (fL h3) fun r l zz=>aB zz fun av h4=>?_;clear zz;subst av
 obtain rfl:=List.length_eq_zero_iff.mp h4
 exact h fd an p Sz p' L0 di oJ v u r
theorem SD (f:Fn) (h:f≠.bL):nc (m9 f):=by
 cases f<;>first | exact ba1 (by intros;kernel_rfl) | exact ba2 (by intros;kernel_rfl) | exact ba3 (by intros;kernel_rfl) | exact absurd rfl h
theorem Py (f:Fn):f∈Sp:=List.mem_of_getElem? (Fn.Cg f)
structure We (K:Frag):Prop where
 gl:gl.all (fun z=>Pp K fa z.1 z.2)=true
 fn:∀ f,LY K f=true
 own:∀ C∈VH,Sy K C (Ca C)=true
 exc:excIn K 49 [.type "Exception",.type "BaseException",.type "object"] "Exception.__new__"=true
 six:j0 K=true
theorem SF {K:Frag} (h:LZ K=true):We K:=by
 unfold LZ at h
 simp only[Bool.and_eq_true] at h
 exact⟨h.1.1.1.1,fun f=>List.all_eq_true.mp h.1.1.1.2 f (Py f),List.all_eq_true.mp h.1.1.2,h.1.2,h.2⟩
theorem SG {K:Frag}{base:Heap} (jy:K.In base) (F:We K):Wa base:=⟨fun C hC=>by
 have h:=F.own C hC
 unfold Sy at h
 rw[Bool.and_eq_true] at h
 exact LV jy h.1 (of_decide_eq_true h.2)⟩
theorem Ie {K:Frag} (h6:j0 K=true) (hp:sJ (eX K 114).params (m9 .bL)=true) (hd:isRef 107 (eX K 114).defaults=true):Binds K (eX K 114) (m9 .bL) CL:=by
 refine bT (DE hp) fun args oJ zz=>aB zz fun hp ha=>?_
 match args,ha with
 | [⟨_,_,p⟩,⟨_,_,p'⟩],rfl=>exact Ib hp (LX hd) h6 rfl rfl
def Pz (prog:Program) (w:World) (base:Heap) (n:Nat) (f:Fn):Prop:=∀ (A:Around) (X:Addr->Prop) (s:Shared) (ds:List V) (vs:List Value),Cx base A s.heap (n+1)->ni X s.heap->(∀ a,X a->base.get? a=none)->ay (seen X s.heap) ds vs->
 kE prog w base dA A X false (PySem.call (.ref (fa f)) vs []) s (ae defs (n+1) f ds)
theorem SJ (f:Fn) (h:f≠.bL):(defs f).params=(m9 f).length/\(defs f).defaults=[]:=by cases f<;>first | exact⟨rfl,rfl⟩ | exact absurd rfl h
theorem DH {K:Frag}{f:Fn} (h:f≠.bL) (hp:sJ (eX K (fa f)).params (m9 f)=true) (hd:Pu (eX K (fa f)).defaults=true) (vs:List Value) (hl:vs.length=(m9 f).length):bindArgs (eX K (fa f)) ⟨vs,[]⟩=pure ((m9 f).zip vs):=by
 refine bT (DE hp) fun args oJ zz=>aB zz fun hp ha=>?_
 exact SD f h _ args oJ vs hp ha (Pw hd) hl
theorem SK {prog:Program}{w:World}{base:Heap}{n:Nat}{K:Frag} (F:We K) (H:Vx prog w base (ae defs n) n K fa gl) (f:Fn):Pz prog w base n f:=fun A X s ds vs cx low new rp=>by
 have h:=F.fn f
 unfold LY at h
 rw[Bool.and_eq_true,Bool.and_eq_true] at h
 obtain⟨⟨hc,hp⟩,h⟩:=h
 obtain⟨body,I,S⟩:=zj H hc
 cases hC:Yu f with
 | false=>
  have hf:f≠.bL:=fun e=>by rw[e] at hC;contradiction
  rw[hC,cond_false,Bool.and_eq_true] at h
  obtain⟨l1,l2⟩:=sH h.1
  obtain⟨d1,d2⟩:=SJ f hf
  exact Qs (d:=defs f) H.W I l1 l2 (zi d1 d2 (DH hf hp h.2)) S ds vs cx low new rp
 | true=>
  rw[hC,cond_true] at h
  have hf:f=.bL∨f=.ke∨f=.gF∨f=.law:=by cases f<;>first | (contradiction;done) | exact .inl rfl | exact .inr (.inl rfl) | exact .inr (.inr (.inl rfl)) | exact .inr (.inr (.inr rfl))
  rcases hf with rfl | hf
  ·rw[show Nat.beq Fn.bL.ctorIdx 5=true from rfl,cond_true,Bool.and_eq_true] at h
   obtain⟨l1,l2⟩:=sH h.1
   exact Qs (d:=defs .bL) H.W I l1 l2 (Ie F.six hp h.2) S ds vs cx low new rp
  ·have hn:f≠.bL:=fun e=>by subst e;rcases hf with q | q | q<;>contradiction
   rw[show Nat.beq f.ctorIdx 5=false by rcases hf with rfl | rfl | rfl<;>rfl,cond_false] at h
   simp only[Bool.and_eq_true] at h
   obtain⟨⟨⟨h1,h2⟩,h3⟩,h4⟩:=h
   obtain⟨l1,l2⟩:=H8 h3
   have b:=DH hn hp h1
   have c:=Ic h2
   rcases hf with rfl | rfl | rfl
   ·exact wN (d:=defs .ke) H.W I l1 (of_decide_eq_true (List.all_eq_true.mp (of_decide_eq_true h4) "family" (by exact .head _))) l2 c rfl rfl (fun x y=>b [x,y] rfl) S ds vs cx low new rp
   ·exact o8 (d:=defs .gF) H.W I l1 l2 c rfl rfl (fun x=>b [x] rfl) S ds vs cx low new rp
   ·exact o8 (d:=defs .law) H.W I l1 l2 c rfl rfl (fun x=>b [x] rfl) S ds vs cx low new rp
theorem L2 {prog:Program}{w:World}{base:Heap}{K:Frag} (F:We K) (jy:K.In base) (top:∃ (p:Program) (loose:List PySem.Str) (mg mb:PySem.Str->Option Value),TopRead p loose mg mb base):∀ n,wk prog w base dA (ae defs n) n fa:=by
 intro z0
 induction z0 with
 | zero=>exact  fun A X s f ds vs cx low new rp=>.stuck
 | succ n ih=>exact  fun A X s f ds vs cx low new rp=>SK F ⟨⟨jy,top⟩,SG jy F,QF F.gl,ih,F.exc⟩ f A X s ds vs cx low new rp
noncomputable def qd (st:SharedT->Thread->Option (SharedT × Thread)) (ok:Thread->Bool):Nat->SharedT->Thread->Option SharedT
 | 0,_,_=>none
 | n+1,s,t=>match through t with
  | true=>some s
  | false=>match ok t with
   | false=>none
   | true=>match st s t with
    | some (s',t')=>qd st ok n s' t'
    | none=>none
theorem Ig {tb:String->Option Builtin}{p:Program}{w:World}{PA:Nat}{ann:Option Value}:∀ {n:Nat}{s s':SharedT}{t:Thread},qd (stepT (denote tb) p w) (stepOk PA ann) n s t=some s'->topRun tb p w PA ann n s.abs t=some s'.abs:=by
 intro z0
 induction z0 with
 | zero=>
  intro _ _ _ h
  contradiction
 | succ n ih=>
  intro s s' t h
  change (match through t with
   | true=>some s
   | false=>match stepOk PA ann t with
    | false=>none
    | true=>match stepT (denote tb) p w s t with
     | some (s',t')=>qd _ _ n s' t'
     | none=>none)=some s' at h
  unfold topRun
  cases ht:through t with
  | true=>rw[ht] at h;injection h with h;subst h;rfl
  | false=>
   rw[ht] at h
   cases hk:stepOk PA ann t with
   | false=>rw[hk] at h;contradiction
   | true=>
    rw[hk] at h
    cases hs:stepT (denote tb) p w s t with
    | none=>rw[hs] at h;contradiction
    | some r=>obtain⟨a0,OQ⟩:=r;rw[hs] at h;rw[stepT_spec hs];exact ih h
noncomputable def build:List Obj->Nat->BT->Option BT
 | [],_,t=>some t
 | o::r,n,t=>match ((t.ins n o).get n).isSome with
  | true=>build r (n+1) (t.ins n o)
  | false=>none
theorem L3 {life:Life}:∀ {l:List Obj}{n:Nat}{t T:BT}{pre:Array Obj},absHeap t n life=⟨pre,life⟩->build l n t=some T->absHeap T (n+l.length) life=⟨pre++l.toArray,life⟩:=by
 intro z0
 induction z0 with
 | nil=>
  intro n t T pre h e
  injection e with e;subst e;rw[List.length_nil,Nat.add_zero,h,Array.append_empty]
 | cons o r ih=>
  intro n t T pre h e
  change (match ((t.ins n o).get n).isSome with
   | true=>build r (n+1) (t.ins n o)
   | false=>none)=some T at e
  cases q:((t.ins n o).get n).isSome with
  | false=>rw[q] at e;contradiction
  | true=>
   rw[q] at e
   have z:=ih (by rw[absHeap_ins q,h];rfl) e
   rw[List.length_cons,show n+(r.length+1)=n+1+r.length by omega,z]
   congr 1
   apply Array.toList_inj.mp
   simp
noncomputable def toT (s:Shared):Option SharedT:=(build s.heap.objs.toList 0 .nil).map fun T=>⟨T,s.heap.objs.toList.length,s.heap.life,s.gens,s.drawn,s.toks,s.os⟩
theorem SM {s:Shared}{T:SharedT} (h:toT s=some T):T.abs=s:=by
 obtain⟨t,e,rfl⟩:=Option.map_eq_some_iff.mp h
 have z:=L3 (life:=s.heap.life) (pre:=#[]) (t:=.nil) rfl e
 rw[Nat.zero_add] at z
 unfold SharedT.abs
 dsimp only
 rw[z]
 obtain⟨⟨o,l⟩,g,d,k,os⟩:=s
 simp
noncomputable def DI (st:SharedT->Thread->Option (SharedT × Thread)) (ok:Nat->Option Value->Thread->Bool) (p:Program) (N:Nat) (s₀:Shared):Option Shared:=
 match s₀.heap.isNs mainGlobals&&s₀.gens.size == 0 with
 | true=>(toT s₀).bind fun S=>(qd st (ok s₀.heap.objs.size (s₀.heap.nsMap mainGlobals "__annotations__")) N S (topStub p)).bind fun Ih=>match staticsOk (importedModules p.main.body) s₀.heap Ih.abs.heap&&namesBound p Ih.abs.heap&&gensDone Ih.abs&&laidKept s₀.heap Ih.abs.heap with
  | true=>some Ih.abs
  | false=>none
 | false=>none
set_option tactic.hygienic true in
theorem PC {p:Program}{w:World}{N:Nat}{s₀ s₁:Shared} (h:DI (stepT (denote treeTable) p w) stepOk p N s₀=some s₁):topFrom treeTable p w N s₀=some s₁:=by
 unfold DI at h
 unfold topFrom
 split at h
 ·rename_i q
  rw[q]
  obtain⟨S,e,h⟩:=Option.bind_eq_some_iff.mp h
  obtain⟨Ih,e₁,h⟩:=Option.bind_eq_some_iff.mp h
  have r:=Ig e₁
  rw[SM e] at r
  dsimp only
  rw[r]
  exact h
 ·contradiction
theorem L4 {p q:Program}{loose:List PySem.Str}{Xt:Shared->Bool}{α:Type}{Yf:Shared->α}{Ya:World->α}{N:Nat}{g0:Bool}
  (h:∀ w,((fencedOpening treeTable p w N).bind (DI (stepT (denote treeTable) p w) stepOk p N)).map (fun s=>(openSeen q loose (importedModules p.main.body) Xt g0 s,Yf s))=some (openGood q loose,Ya w)):LeftO p q loose Xt Yf Ya N g0:=fun w=>by
 obtain⟨s,e,e'⟩:=Option.map_eq_some_iff.mp (h w)
 obtain⟨s₀,Xz,e₁⟩:=Option.bind_eq_some_iff.mp e
 unfold openEnds
 rw[Xz]
 show (topFrom treeTable p w N s₀).map _=_
 rw[PC e₁]
 exact congrArg some e'
noncomputable def pA:Program:=W.view PySem.Challenge.pw_ji0014_01 [60]
noncomputable def CD:List PySem.Str:=(["DNSException","FormError","DnsSyntaxError","UnexpectedEnd","TooBig","inet_ntoa","inet_ntoa_ipv4","inet_aton","inet_aton_ipv4","canonicalize","canonicalize_ipv4","_HEX","inet_ntoa_ipv6","_v4_ending","inet_aton_ipv6","_mapped_prefix","is_mapped","canonicalize_ipv6","AF_INET","AF_INET6"]:List PySem.Str)++(["inet_pton","inet_ntop","af_for_address","is_multicast","is_address","any_for_af","canonicalize_inet","LAW_HEX","LAW_CAPS","LAW_SIGNS","LAW_ROW","_law_at","_law_groups","_law_octets","_law_word","_law_dots","_law_pairs","_law_canon","_law_quad","_law_piece"]:List PySem.Str)++(["_law_side","_law_read","_law_tell","_law_by_family","_law_text","_law_there_and_back","_law_lengths","_law_any","_law_dotted","_law_spelled","_law_free"]:List PySem.Str)
noncomputable def Yv (s:Shared):Bool:=xlAt pA [] s&&recOk [] s
open PySem.W.Fast in
theorem L5:LeftO PySem.Challenge.pw_ji0014_01 pA CD Yv (fun s=>LZ (DG s.heap)) (fun O=>true) 4894:=by
 have h:∀ w,(((tw10274390034422433532 tw14364793385576792824 (opening PySem.Challenge.pw_ji0014_01) w 4894 (tw1435165496053646825 (opening PySem.Challenge.pw_ji0014_01)).1 (tw1435165496053646825 (opening PySem.Challenge.pw_ji0014_01)).2).bind (tw14289696077712309145 PySem.Challenge.pw_ji0014_01)).bind (DI (tw10156331382660048174 (tw11892475500146522536 tw14364793385576792824) PySem.Challenge.pw_ji0014_01 w) tw6613529449190102663 PySem.Challenge.pw_ji0014_01 4894)).map (fun s=>(tw4187177175401517315 pA CD (importedModules PySem.Challenge.pw_ji0014_01.main.body) Yv true s,LZ (DG s.heap)))=some (openGood pA CD,true):=by
  intro w
  kernel_rfl
 rw[<- te10274390034422433532,<- te14364793385576792824,<- te1435165496053646825,<- te14289696077712309145,<- te10156331382660048174,<- te11892475500146522536,<- te6613529449190102663,<- te4187177175401517315] at h
 exact L4 h
noncomputable abbrev SN:OpenRow:=PySem.Challenge.rw_ji0014_01.row
theorem DJ:(defOf pA SN.name).isSome=true:=by kernel_rfl
noncomputable def PD:DefRec × List (PySem.Str × Expr):=(defOf pA SN.name).get DJ
theorem PF:defOf pA SN.name=some (PD.1,PD.2):=(Option.some_get DJ).symm
theorem L6 {g:Addr->Obj->Prop}{vs:List Value}{xs:List Int} (h:IntsAre vs xs):ay g (xs.map V.int) vs:=by
 induction h with
 | nil=>exact .nil
 | cons n t _ ih=>exact .cons (by rw[Kf];exact⟨t,rfl⟩) ih
theorem Ii {c:ClaimW}{cl:PySem.Str->Option Addr}{mean:ExcName->Option Value}{args:List WData}{s₁ s':Shared} (hr:∀ k,c.raises args k=false) (hp:c.post args (.bool true) args=true) (k:OldK s₁.heap s'.heap) (ho:s'.os=s₁.os) (hg:AllBare s'.gens):GoodWG c cl mean args s₁ (.ok (.ret (.bool true))) s':=
 ⟨.inl ⟨.bool true,.bool true,[],rfl,hr,.bool true,hp,fun O=>⟨.nil,fun a h=>by cases h⟩⟩,k,ho,hg⟩
set_option tactic.hygienic true in
theorem wY {N:Nat} (hN:N<=500) (law:∀ xs:List Int,xs.length<=63->ae defs N .law [.list (xs.map V.int)]=.ok (.bool true)):PySem.Challenge.rw_ji0014_01.Holds:=by
 refine holds_law (by kernel_rfl) fun said=>Cz (d:=PD.1) (kwd:=PD.2) (XP:=XL pA []) (YP:=fun O h=>∃ K:Frag,K.In h/\LZ K=true) L5 (fun w s e=>⟨_,fun a o q=>Px q,e⟩) (fun w h h' ⟨K,a,b⟩ k=>⟨K,a.keeps k,b⟩)
  (fun s e=>xl_of s (Bool.and_eq_true_iff.mp e).1) XL.keeps PF (by kernel_rfl) (by kernel_rfl) (fun s e=>recFacts_of (Bool.and_eq_true_iff.mp e).2) rfl said (by decide +kernel) ⟨rfl,rfl,rfl,rfl,rfl,by decide +kernel⟩ ?_ ?_
 ·w_witness2
 exact (fun w s₀ s₁ mg mb G Y a o pm cd doc dV kV h1 h2 h3 h4 h5 VJ args vals as Su hlay hrd hwl V3=>by
 obtain⟨K,jy,fit⟩:=Y
 have F:=SF fit
 have top:=topRead_of G.T
 wrow_args Su hlay hrd hwl V3
 rename_i xs hs Yw hL1 hr1 AX w4 w3 L items w0 hL ra w1 r0 hI hr hc1 hc2
 have hlen:xs.length<=63:=by
  have:¬ ((63:Nat):Int)<(xs.length:Int):=hc1
  omega
 have e5:mg (Str.ofString "law")=some (.ref 313):=mg_of jy G.T.g (QF F.gl "law" (.fn .law) (by kernel_rfl)).1
 obtain rfl:a=313:=by
  have Yx:mg (Str.ofString "law")=some (.ref a):=h5
  rw[e5] at Yx
  cases Yx;rfl
 have good:∀ (h':Heap) (tk:Nat),Kept s₁.heap s₁.heap h'->GoodWG PySem.Challenge.rw_ji0014_01.row.claim (classAt s₀.heap) (ExcName.means s₀.heap) [ofPy (PyData.list (List.map PyData.int xs))] s₁ (.ok (.ret (.bool true))) { s₁ with heap:=h',toks:=tk }:=fun h' tk k=>
  Ii (fun k=>rfl) (postW_of (by wrow_shape) (by wtm_val) (by w_fin)) (.of_keep (k.stays (fun b o q=>q))) rfl (AllBare.of_eq VJ)
 refine⟨?_,good s₁.heap s₁.toks (.refl _ _)⟩
 obtain⟨o',ll,Nz,n',kx⟩:=hL
 have rp:ay (seen (fun O=>False) s₁.heap) [V.list (xs.map V.int)] [.ref L]:=.cons (by
  rw[Bi]
  exact⟨L,o',_,n',rfl,⟨ll,fun q=>q⟩,Nz,kx,by simp;omega,by simpa using L6 hI⟩) .nil
 have cx:Cx s₁.heap callerA s₁.heap N:=⟨⟨[],rfl,trivial⟩,fun b o q=>q,.inl rfl,by show 1+claimMargin+N<=900;have:claimMargin=300:=rfl;omega,by show 4+10*N<=9000;omega⟩
 have C:=L2 (prog:=PySem.Challenge.rw_ji0014_01.row.prog) (w:=w) F jy ⟨_,_,_,_,top⟩ N callerA (fun O=>False) s₁ .law _ _ cx (fun O q=>q.elim) (fun O q=>q.elim) rp
 rw[law xs hlen] at C
 refine C _ _ ⟨fun d v h' tk e k rp O=>?_,fun x e h' tk q=>by cases q⟩ (by intro q;cases q)
 cases e
 obtain rfl:=rO rp
 exact good h' tk k)
end Mine.Internal
end
theorem PySem.Challenge.cw_ji0014_01_holds : PySem.Challenge.rw_ji0014_01.Holds :=
  Mine.Internal.wY (N := 7) (by decide) fun xs O => Mine.Internal.P.Kc 0 xs
