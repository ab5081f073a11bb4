import PyProof.Rows.All
import Wide.All
import OpenK.AllK
import Wide.FinOn
import PySem.Challenge.RW_ji0014_01
set_option linter.unusedVariables false
set_option linter.unusedSimpArgs false
set_option maxRecDepth 100000
set_option exponentiation.threshold 5000
set_option Elab.async false
set_option tactic.hygienic false
set_option compiler.extract_closed false
set_option genSizeOf false
set_option genSizeOfSpec false
set_option bootstrap.genMatcherCode false
set_option genInjectivity false
set_option genCtorIdx false
namespace Mine.Internal
theorem bW {α:Sort _}{β:Sort _}{p:α->β->Prop}{z:Prop} (w:∃ a b,p a b) (f:∀ a b,p a b->z):z:=w.elim fun a w=>w.elim (f a)
theorem eR {α:Sort _}{β:Sort _}{γ:Sort _}{p:α->β->γ->Prop}{z:Prop} (w:∃ a b c,p a b c) (f:∀ a b c,p a b c->z):z:=w.elim fun a w=>w.elim fun b w=>w.elim (f a b)
theorem kR {α:Sort _}{β:Sort _}{γ:Sort _}{δ:Sort _}{p:α->β->γ->δ->Prop}{z:Prop} (w:∃ a b c d,p a b c d) (f:∀ a b c d,p a b c d->z):z:=w.elim fun a w=>w.elim fun b w=>w.elim fun c w=>w.elim (f a b c)
theorem Tr {α:Sort _}{β:Sort _}{γ:Sort _}{δ:Sort _}{ε:Sort _}{p:α->β->γ->δ->ε->Prop}{z:Prop} (w:∃ a b c d e,p a b c d e) (f:∀ a b c d e,p a b c d e->z):z:=w.elim fun a w=>w.elim fun b w=>w.elim fun c w=>w.elim fun d w=>w.elim (f a b c d)
@[elab_as_elim] theorem cE {α:Type}{M:List α->Prop}{n:Nat}{l:List α} (w:l.length=n+1) (f:∀ a r,r.length=n->M (a::r)):M l:=by
 cases l with
 | nil=>contradiction
 | cons a r=>exact f a r (Nat.succ.inj w)
@[elab_as_elim] theorem Mo {α:Type}{M:List α->Prop}{l:List α} (w:l.length=4) (f:∀ a b c d,M [a,b,c,d]):M l:=by
 refine cE w fun a r w=>?_
 refine cE w fun b r w=>?_
 refine cE w fun c r w=>?_
 refine cE w fun d r w=>?_
 cases r with
 | nil=>exact f a b c d
 | cons=>contradiction
theorem aC {a b z:Prop} (w:a/\b) (f:a->b->z):z:=f w.1 w.2
theorem b6 {a b c z:Prop} (w:a/\b/\c) (f:a->b->c->z):z:=f w.1 w.2.1 w.2.2
theorem iZ {a b c d z:Prop} (w:a/\b/\c/\d) (f:a->b->c->d->z):z:=f w.1 w.2.1 w.2.2.1 w.2.2.2
theorem p4 {a b c d e z:Prop} (w:a/\b/\c/\d/\e) (f:a->b->c->d->e->z):z:=f w.1 w.2.1 w.2.2.1 w.2.2.2.1 w.2.2.2.2
theorem DP {a b c d e f z:Prop} (w:a/\b/\c/\d/\e/\f) (f:a->b->c->d->e->f->z):z:=f w.1 w.2.1 w.2.2.1 w.2.2.2.1 w.2.2.2.2.1 w.2.2.2.2.2
theorem Wo {a b c d e f g z:Prop} (w:a/\b/\c/\d/\e/\f/\g) (f:a->b->c->d->e->f->g->z):z:=f w.1 w.2.1 w.2.2.1 w.2.2.2.1 w.2.2.2.2.1 w.2.2.2.2.2.1 w.2.2.2.2.2.2
mutual
inductive Fn where
 | fi | eB | i6 | fM | qh | bN | mapped | i7 | uS | uT | oN | multi | i9 | oO | eY
 | qi | ia | eO | iN | iO | eZ | gu | lR | jd | lS | gH | bJ | ib | ko | qj | fN | zx | gb | eS | ql | law
inductive PX where
 | plain | uU
end
mutual
inductive Prim where
 | len | str | int | bytes | isBytes | ord | encode | decode | isdigit | lower | min | max | split | startswith | endswith | find | rfind | lstrip | join | cj
inductive dC where
 | syntax | value | bX
end
mutual
inductive PY where
 | eq | ne | lt | le | gt | ge | is | lT | isIn
inductive Hc where
 | exception | tF | tooBig | kr | ig | kS | notImplemented
end
mutual
inductive QQ where
 | add | sub | mul | fdiv | mod | pow
inductive YW where
 | a
end
noncomputable def Fn.ctorIdx (x:Fn):Nat:=x.casesOn 0 1 2 3 4 5 6 7 8 9 10 11 12 13 14 15 16 17 18 19 20 21 22 23 24 25 26 27 28 29 30 31 32 33 34 35
noncomputable def Prim.ctorIdx (x:Prim):Nat:=x.casesOn 0 1 2 3 4 5 6 7 8 9 10 11 12 13 14 15 16 17 18 19
noncomputable def Hc.ctorIdx (x:Hc):Nat:=x.casesOn 0 1 2 3 4 5 6
noncomputable def dC.ctorIdx (x:dC):Nat:=x.casesOn 0 1 2
inductive V where
 | none
 | bool (b:Bool)
 | int (i:Int)
 | str (s:List Nat)
 | bytes (s:List Nat)
 | cj (s:List Nat)
 | list (xs:List V)
 | tuple (xs:List V)
noncomputable def Hc.lU:Hc->dC->Bool
 | .exception,_=>true
 | .ig,.syntax=>true
 | .kS,.value=>true
 | .notImplemented,.bX=>true
 | _,_=>false
noncomputable def V.ctorIdx (x:V):Nat:=x.casesOn 0 (fun O=>1) (fun O=>2) (fun O=>3) (fun O=>4) (fun O=>5) (fun O=>6) (fun O=>7)
inductive R (α:Type) where
 | ok (a:α)
 | exc (x:dC)
 | stuck
noncomputable def R.ctorIdx {α:Type} (x:R α):Nat:=x.casesOn (fun O=>0) (fun O=>1) 2
noncomputable def R.bind {α β:Type}:R α->(α->R β)->R β
 | .ok a,f=>f a
 | .exc x,_=>.exc x
 | .stuck,_=>.stuck
noncomputable def R.guard {α:Type} (c:Bool) (r:R α):R α:=if c then r else .stuck
noncomputable def lim:Nat:=1000000
noncomputable def pF:Nat:=10 ^ 4000
mutual
inductive PE where
 | const (v:V)
 | glob (v:V)
 | loc (i:Nat)
 | bin (op:QQ) (a b:PE)
 | cmp (op:PY) (a b:PE)
 | not (a:PE)
 | and (a b:PE)
 | or (a b:PE)
 | call (f:Fn) (as:fZ)
 | prim (p:Prim) (as:fZ)
 | aH (p:Prim) (o:PE) (as:fZ)
 | idx (a i:PE)
 | slice (a lo hi:PE)
 | list (es:fZ)
 | tuple (es:fZ)
 | comp (elt:PE) (k:Nat) (it:uV) (c:PE)
 | qm (es:CJ)
inductive fZ where
 | nil
 | cons (e:PE) (r:fZ)
inductive CJ where
 | nil
 | cons (e:PE) (f:PX) (r:CJ)
inductive uV where
 | val (e:PE)
 | sO (lo hi:PE) (st:Nat)
end
mutual
inductive PS where
 | assign (i:Nat) (e:PE)
 | own (i:Nat) (e:PE)
 | aug (i:Nat) (e:PE)
 | setItem (i:Nat) (aaQ e:PE)
 | append (i:Nat) (e:PE)
 | push (i:Nat) (e:PE)
 | ite (c:PE) (a b:aB)
 | while (c:PE) (b:aB)
 | for (i:Nat) (it:uV) (b:aB)
 | ret (e:PE)
 | raise (x:dC) (as:fZ)
 | try (b:aB) (hs:Ip)
 | expr (e:PE)
inductive aB where
 | nil
 | cons (s:PS) (r:aB)
inductive Ip where
 | nil
 | cons (c:Hc) (b:aB) (r:Ip)
end
noncomputable def PE.ctorIdx (x:PE):Nat:=x.casesOn (fun O=>0) (fun O=>1) (fun O=>2) (fun O O O=>3) (fun O O O=>4) (fun O=>5) (fun O O=>6) (fun O O=>7) (fun O O=>8) (fun O O=>9) (fun O O O=>10) (fun O O=>11) (fun O O O=>12) (fun O=>13) (fun O=>14) (fun O O O O=>15) (fun O=>16)
noncomputable def V.truth:V->R Bool
 | .none=>.ok false
 | .bool b=>.ok b
 | .int i=>.ok (decide (i≠0))
 | .str s=>.ok (!s.isEmpty)
 | _=>.stuck
noncomputable def tG:V->V->R Bool
 | .bool a,.bool b=>.ok (decide (a=b))
 | .int a,.int b=>.ok (decide (a=b))
 | .str a,.str b=>.ok (decide (a=b))
 | .bytes a,.bytes b=>.ok (decide (a=b))
 | _,_=>.stuck
noncomputable def kW:List V->List V->R Bool
 | [],[]=>.ok true
 | x::xs,y::ys=>(tG x y).bind fun b=>(kW xs ys).bind fun c=>.ok (b&&c)
 | _,_=>.stuck
theorem lV:kW (x::xs) (y::ys)=((tG x y).bind fun b=>(kW xs ys).bind fun c=>.ok (b&&c)):=rfl
noncomputable def V.eq:V->V->R Bool
 | .list xs,.list ys=>if xs.length=ys.length then kW xs ys else .ok false
 | .tuple xs,.tuple ys=>if xs.length=ys.length then kW xs ys else .stuck
 | a,b=>tG a b
noncomputable def sP:QQ->V->V->R V
 | .add,.int a,.int b=>.ok (.int (a+b))
 | .add,.str a,.str b=>R.guard (decide (a.length+b.length<=lim)) (.ok (.str (a++b)))
 | .add,.bytes a,.bytes b=>R.guard (decide (a.length+b.length<=lim)) (.ok (.bytes (a++b)))
 | .add,.list a,.list b=>R.guard (decide (a.length+b.length<=lim)) (.ok (.list (a++b)))
 | .sub,.int a,.int b=>.ok (.int (a - b))
 | .mul,.int a,.int b=>R.guard (decide (a.natAbs<pF)&&decide (b.natAbs<pF)) (.ok (.int (a*b)))
 | .mul,.bytes a,.int n=>R.guard (decide (a.length=1)&&decide (-1000<=n)&&decide (n<=1000)) (.ok (.bytes (List.replicate n.toNat a).flatten))
 | .mul,.list a,.int n=>R.guard (decide (a.length=1)&&decide (-1000<=n)&&decide (n<=1000)) (.ok (.list (List.replicate n.toNat a).flatten))
 | .fdiv,.int a,.int b=>R.guard (decide (0<b)&&decide (b<1000000000)) (.ok (.int (Int.fdiv a b)))
 | .mod,.int a,.int b=>R.guard (decide (0<b)) (.ok (.int (Int.fmod a b)))
 | .pow,.int a,.int b=>R.guard (decide (0<=a)&&decide (a<=100)&&decide (0<=b)&&decide (b<=100)) (.ok (.int (a ^ b.toNat)))
 | _,_,_=>.stuck
noncomputable def V.isNone:V->Bool
 | .none=>true
 | _=>false
noncomputable def pG:PY->V->V->R V
 | .eq,a,b=>(V.eq a b).bind fun x=>.ok (.bool x)
 | .ne,a,b=>(V.eq a b).bind fun x=>.ok (.bool !x)
 | .lt,.int a,.int b=>.ok (.bool (decide (a<b)))
 | .le,.int a,.int b=>.ok (.bool (decide (a<=b)))
 | .gt,.int a,.int b=>.ok (.bool (decide (b<a)))
 | .ge,.int a,.int b=>.ok (.bool (decide (b<=a)))
 | .is,a,.none=>.ok (.bool a.isNone)
 | .lT,a,.none=>.ok (.bool !a.isNone)
 | .isIn,.bytes [c],.bytes b=>.ok (.bool (b.contains c))
 | _,_,_=>.stuck
noncomputable def findAt (p:List Nat):List Nat->Nat->Int
 | [],n=>if p.isEmpty then (n:Int) else -1
 | x::r,n=>if p.isPrefixOf (x::r) then (n:Int) else findAt p r (n+1)
theorem DQ {p:List Nat}:findAt p (x::r) n=(if p.isPrefixOf (x::r) then (n:Int) else findAt p r (n+1)):=rfl
noncomputable def ik (c:Nat):List Nat->Nat->Int->Int
 | [],_,best=>best
 | x::r,n,best=>ik c r (n+1) (if x=c then (n:Int) else best)
theorem tH {c:Nat}:ik c (x::r) n best=(ik c r (n+1) (if x=c then (n:Int) else best)):=rfl
noncomputable def ai (c:Nat):List Nat->List (List Nat)
 | []=>[[]]
 | x::r=>if x=c then []::ai c r else match ai c r with
  | []=>[[x]]
  | p::ps=>(x::p)::ps
theorem fA {c:Nat}:ai c []=([[]]):=rfl
theorem aT {c:Nat}:ai c (x::r)=(if x=c then []::ai c r else match ai c r with
  | []=>[[x]]
  | p::ps=>(x::p)::ps):=rfl
noncomputable def bj (sep:List Nat):List (List Nat)->List Nat
 | []=>[]
 | [x]=>x
 | x::r=>x++sep++bj sep r
theorem dg {sep:List Nat}:bj sep []=([]):=rfl
theorem ck {sep:List Nat}:bj sep [x]=(x):=rfl
theorem aV {sep:List Nat}:bj sep (x::y::r)=(x++sep++bj sep (y::r)):=rfl
noncomputable def aO (c:Nat):Bool:=decide (48<=c)&&decide (c<=57)
noncomputable def kX (c:Nat):Nat:=if 65<=c/\c<=90 then c+32 else c
noncomputable def digitsVal (s:List Nat):Nat:=s.foldl (fun a c=>a*10+(c - 48)) 0
noncomputable def bI (i:Int):List Nat:=(toString i).toList.map Char.toNat
noncomputable def dE (n:Nat):Nat:=if n<10 then 48+n else 87+n
noncomputable def strs?:List V->Option (List (List Nat))
 | []=>some []
 | .str s::r=>(strs? r).map (s::·)
 | _=>none
theorem w7:strs? (.str s::r)=((strs? r).map (s::·)):=rfl
noncomputable def fq:List V->Option (List (List Nat))
 | []=>some []
 | .bytes s::r=>(fq r).map (s::·)
 | _=>none
theorem qn:fq (.bytes s::r)=((fq r).map (s::·)):=rfl
noncomputable def eE:List V->Option (List Int)
 | []=>some []
 | .int s::r=>(eE r).map (s::·)
 | _=>none
theorem qo:eE (.int s::r)=((eE r).map (s::·)):=rfl
noncomputable def ascii (s:List Nat):Bool:=s.all fun c=>decide (c<128)
noncomputable def bx:List (List Nat)->Nat
 | []=>0
 | x::r=>x.length+bx r
theorem cM:bx []=(0):=rfl
theorem aY:bx (x::r)=(x.length+bx r):=rfl
noncomputable def bq:Prim->List V->R V
 | .len,[.str s]=>.ok (.int s.length)
 | .len,[.bytes s]=>.ok (.int s.length)
 | .len,[.list xs]=>.ok (.int xs.length)
 | .len,[.tuple xs]=>.ok (.int xs.length)
 | .str,[.int i]=>R.guard (decide (i.natAbs.log2<1920)) (.ok (.str (bI i)))
 | .int,[.bytes s]=>R.guard (!s.isEmpty&&s.all aO&&decide (s.length<=640)) (.ok (.int (digitsVal s)))
 | .bytes,[.list xs]=>match eE xs with
  | some is=>if is.all (fun i=>decide (0<=i)&&decide (i<256)) then .ok (.bytes (is.map Int.toNat)) else R.guard (is.all fun i=>decide (0<=i)) (.exc .value)
  | none=>.stuck
 | .bytes,[.cj s]=>.ok (.bytes s)
 | .isBytes,[v]=>match v with
  | .bytes _=>.ok (.bool true)
  | .str _=>.ok (.bool false)
  | _=>.stuck
 | .ord,[.str [c]]=>.ok (.int c)
 | .encode,[.str s]=>R.guard (ascii s) (.ok (.bytes s))
 | .decode,[.bytes s]=>R.guard (!s.isEmpty&&ascii s) (.ok (.str s))
 | .isdigit,[.bytes s]=>.ok (.bool (!s.isEmpty&&s.all aO))
 | .lower,[.bytes s]=>.ok (.bytes (s.map kX))
 | .min,[.int a,.int b]=>.ok (.int (if b<a then b else a))
 | .max,[.int a,.int b]=>.ok (.int (if a<b then b else a))
 | .split,[.str s,.str [c]]=>R.guard (decide (s.length<=lim)) (.ok (.list ((ai c s).map V.str)))
 | .split,[.bytes s,.bytes [c]]=>R.guard (decide (s.length<=lim)) (.ok (.list ((ai c s).map V.bytes)))
 | .startswith,[.bytes s,.bytes p]=>.ok (.bool (p.isPrefixOf s))
 | .endswith,[.bytes s,.bytes p]=>.ok (.bool (p.isSuffixOf s))
 | .find,[.bytes s,.bytes [c]]=>.ok (.int (findAt [c] s 0))
 | .find,[.str s,.str [c]]=>.ok (.int (findAt [c] s 0))
 | .rfind,[.bytes s,.bytes [c]]=>.ok (.int (ik c s 0 (-1)))
 | .lstrip,[.str s,.str [c]]=>.ok (.str (s.dropWhile (· == c)))
 | .join,[.str sep,.list xs]=>match strs? xs with
  | some ys=>R.guard (decide (bx ys+sep.length*ys.length<=lim)) (.ok (.str (bj sep ys)))
  | none=>.stuck
 | .join,[.bytes sep,.list xs]=>match fq xs with
  | some ys=>R.guard (decide (2<=ys.length)&&decide (bx ys+sep.length*ys.length<=lim)) (.ok (.bytes (bj sep ys)))
  | none=>.stuck
 | .cj,[]=>.ok (.cj [])
 | _,_=>.stuck
noncomputable def il:V->V->R V
 | .str s,.int i=>if 0<=i then match s[i.toNat]? with | some c=>.ok (.str [c]) | none=>.stuck else .stuck
 | .bytes s,.int i=>if 0<=i then match s[i.toNat]? with | some c=>.ok (.int c) | none=>.stuck else .stuck
 | .list xs,.int i=>if 0<=i then match xs[i.toNat]? with | some v=>.ok v | none=>.stuck else .stuck
 | .tuple xs,.int i=>if 0<=i then match xs[i.toNat]? with | some v=>.ok v | none=>.stuck else .stuck
 | _,_=>.stuck
theorem Mp:il (.str s) (.int i)=(if 0<=i then match s[i.toNat]? with | some c=>.ok (.str [c]) | none=>.stuck else .stuck):=rfl
theorem Mq:il (.bytes s) (.int i)=(if 0<=i then match s[i.toNat]? with | some c=>.ok (.int c) | none=>.stuck else .stuck):=rfl
theorem Mr:il (.list xs) (.int i)=(if 0<=i then match xs[i.toNat]? with | some v=>.ok v | none=>.stuck else .stuck):=rfl
theorem Ms:il (.tuple xs) (.int i)=(if 0<=i then match xs[i.toNat]? with | some v=>.ok v | none=>.stuck else .stuck):=rfl
noncomputable def bound (n:Nat) (d:Nat):V->Option Nat
 | .none=>some d
 | .int i=>some (if i<0 then (max 0 (i+n)).toNat else min i.toNat n)
 | _=>Option.none
noncomputable def cut {α:Type} (xs:List α) (a b:Nat):List α:=(xs.drop a).take (b - a)
noncomputable def aP:V->V->V->R V
 | .str s,lo,hi=>match bound s.length 0 lo,bound s.length s.length hi with
  | some a,some b=>.ok (.str (cut s a b))
  | _,_=>.stuck
 | .bytes s,lo,hi=>match bound s.length 0 lo,bound s.length s.length hi with
  | some a,some b=>.ok (.bytes (cut s a b))
  | _,_=>.stuck
 | .list s,lo,hi=>match bound s.length 0 lo,bound s.length s.length hi with
  | some a,some b=>.ok (.list (cut s a b))
  | _,_=>.stuck
 | _,_,_=>.stuck
theorem DR:aP (.str s) lo hi=(match bound s.length 0 lo,bound s.length s.length hi with
  | some a,some b=>.ok (.str (cut s a b))
  | _,_=>.stuck):=rfl
theorem DS:aP (.bytes s) lo hi=(match bound s.length 0 lo,bound s.length s.length hi with
  | some a,some b=>.ok (.bytes (cut s a b))
  | _,_=>.stuck):=rfl
theorem DT:aP (.list s) lo hi=(match bound s.length 0 lo,bound s.length s.length hi with
  | some a,some b=>.ok (.list (cut s a b))
  | _,_=>.stuck):=rfl
noncomputable def sQ:PX->V->R (List Nat)
 | .plain,.str s=>.ok s
 | .plain,.int i=>R.guard (decide (i.natAbs.log2<1920)) (.ok (bI i))
 | .uU,.int i=>if 0<=i/\i<256 then .ok [dE (i.toNat / 16),dE (i.toNat % 16)] else .stuck
 | _,_=>.stuck
noncomputable def iq (lo hi:Int) (st:Nat):List V:=(List.range (((hi - lo).toNat+st - 1) / st)).map fun (k:Nat)=>V.int (lo+(st:Int)*(k:Int))
noncomputable def qp:V->R (List V)
 | .list xs=>.ok xs
 | .str s=>R.guard (ascii s) (.ok (s.map fun c=>.str [c]))
 | .bytes s=>.ok (s.map fun (c:Nat)=>V.int (c:Int))
 | _=>.stuck
theorem Iw:qp (.list xs)=(.ok xs):=rfl
theorem w8:qp (.str s)=(R.guard (ascii s) (.ok (s.map fun c=>.str [c]))):=rfl
theorem Iy:qp (.bytes s)=(.ok (s.map fun (c:Nat)=>V.int (c:Int))):=rfl
noncomputable def eT (step:V->R (Option V)):List V->R (List V)
 | []=>.ok []
 | x::r=>match step x with
  | .ok o=>(eT step r).bind fun ys=>.ok (match o with | some y=>y::ys | none=>ys)
  | _=>.stuck
theorem qq {step:V->R (Option V)}:eT step (x::r)=(match step x with
  | .ok o=>(eT step r).bind fun ys=>.ok (match o with | some y=>y::ys | none=>ys)
  | _=>.stuck):=rfl
noncomputable abbrev Ρ:=List (Option V)
noncomputable def V.je:V->Bool
 | .str _=>true
 | .bytes _=>true
 | _=>false
noncomputable def V.gw:V->Bool
 | .cj _=>false
 | .list _=>false
 | .tuple _=>false
 | _=>true
noncomputable def PE.isName:PE->Bool
 | .loc _=>true
 | .glob _=>true
 | _=>false
section
variable (D:Fn->List V->R V)
mutual
noncomputable def ao:PE->Ρ->R V
 | .const v,_=>.ok v
 | .glob v,_=>.ok v
 | .loc i,J=>match J[i]? with | some (some v)=>.ok v | _=>.stuck
 | .bin op a b,J=>(ao a J).bind fun x=>(ao b J).bind fun y=>sP op x y
 | .cmp op a b,J=>(ao a J).bind fun x=>(ao b J).bind fun y=>pG op x y
 | .not a,J=>(ao a J).bind fun x=>x.truth.bind fun b=>.ok (.bool !b)
 | .and a b,J=>(ao a J).bind fun x=>x.truth.bind fun t=>if t then ao b J else .ok x
 | .or a b,J=>(ao a J).bind fun x=>x.truth.bind fun t=>if t then .ok x else ao b J
 | .call f as,J=>(cT as J).bind fun vs=>D f vs
 | .prim p as,J=>(cT as J).bind fun vs=>bq p vs
 | .aH p o as,J=>(ao o J).bind fun x=>R.guard x.je ((cT as J).bind fun vs=>bq p (x::vs))
 | .idx a i,J=>(ao a J).bind fun x=>(ao i J).bind fun y=>R.guard (a.isName||x.je) (il x y)
 | .slice a lo hi,J=>(ao a J).bind fun x=>(ao lo J).bind fun l=>(ao hi J).bind fun h=>R.guard (a.isName||x.je) (aP x l h)
 | .list es,J=>(cT es J).bind fun vs=>.ok (.list vs)
 | .tuple es,J=>(cT es J).bind fun vs=>.ok (.tuple vs)
 | .comp elt k it c,J=>(gI it J).bind fun xs=>R.guard (decide (xs.length<=lim)) <| (eT (fun x=>(ao c (J.set k (some x))).bind fun t=>t.truth.bind fun b=>
   if b then (ao elt (J.set k (some x))).bind fun y=>.ok (some y) else .ok Option.none) xs).bind fun ys=>.ok (.list ys)
 | .qm es,J=>(gJ es J).bind fun s=>.ok (.str s)
noncomputable def cT:fZ->Ρ->R (List V)
 | .nil,_=>.ok []
 | .cons e r,J=>(ao e J).bind fun v=>(cT r J).bind fun vs=>.ok (v::vs)
noncomputable def gJ:CJ->Ρ->R (List Nat)
 | .nil,_=>.ok []
 | .cons e f r,J=>(ao e J).bind fun v=>(sQ f v).bind fun s=>R.guard (decide (s.length<=100000)) ((gJ r J).bind fun t=>.ok (s++t))
noncomputable def gI:uV->Ρ->R (List V)
 | .val e,J=>(ao e J).bind qp
 | .sO lo hi st,J=>(ao lo J).bind fun l=>(ao hi J).bind fun h=>match l,h with
  | .int l,.int h=>R.guard (decide (st=1∨st=2)&&decide (l.natAbs<=1000000)&&decide (h.natAbs<=1000000)) (.ok (iq l h st))
  | _,_=>.stuck
end
end
theorem QR {D:Fn->List V->R V}:ao D (.loc i) J=(match J[i]? with | some (some v)=>.ok v | _=>.stuck):=rfl
theorem QS {D:Fn->List V->R V}:ao D (.cmp op a b) J=((ao D a J).bind fun x=>(ao D b J).bind fun y=>pG op x y):=rfl
theorem QT {D:Fn->List V->R V}:ao D (.not a) J=((ao D a J).bind fun x=>x.truth.bind fun b=>.ok (.bool !b)):=rfl
theorem QV {D:Fn->List V->R V}:ao D (.and a b) J=((ao D a J).bind fun x=>x.truth.bind fun t=>if t then ao D b J else .ok x):=rfl
theorem QW {D:Fn->List V->R V}:ao D (.or a b) J=((ao D a J).bind fun x=>x.truth.bind fun t=>if t then .ok x else ao D b J):=rfl
theorem Mt {D:Fn->List V->R V}:ao D (.prim p as) J=((cT D as J).bind fun vs=>bq p vs):=rfl
theorem Mu {D:Fn->List V->R V}:ao D (.list es) J=((cT D es J).bind fun vs=>.ok (.list vs)):=rfl
theorem CK {D:Fn->List V->R V}:ao D (.comp elt k it c) J=((gI D it J).bind fun xs=>R.guard (decide (xs.length<=lim)) <| (eT (fun x=>(ao D c (J.set k (some x))).bind fun t=>t.truth.bind fun b=>
   if b then (ao D elt (J.set k (some x))).bind fun y=>.ok (some y) else .ok Option.none) xs).bind fun ys=>.ok (.list ys)):=rfl
theorem Mv {D:Fn->List V->R V}:ao D (.qm es) J=((gJ D es J).bind fun s=>.ok (.str s)):=rfl
theorem CL {D:Fn->List V->R V}:cT D .nil u1=(.ok []):=rfl
theorem p5 {D:Fn->List V->R V}:cT D (.cons e r) J=((ao D e J).bind fun v=>(cT D r J).bind fun vs=>.ok (v::vs)):=rfl
theorem Mw {D:Fn->List V->R V}:gJ D .nil u1=(.ok []):=rfl
theorem Mx {D:Fn->List V->R V}:gJ D (.cons e f r) J=((ao D e J).bind fun v=>(sQ f v).bind fun s=>R.guard (decide (s.length<=100000)) ((gJ D r J).bind fun t=>.ok (s++t))):=rfl
inductive SR where
 | next (J:Ρ)
 | ret (v:V)
 | exc (x:dC) (J:Ρ)
 | stuck
noncomputable def R.on {α:Type} (r:R α) (J:Ρ) (k:α->SR):SR:=match r with
 | .ok v=>k v
 | .exc x=>.exc x J
 | .stuck=>.stuck
noncomputable def SR.then (r:SR) (k:Ρ->SR):SR:=match r with
 | .next J=>k J
 | .ret v=>.ret v
 | .exc x J=>.exc x J
 | .stuck=>.stuck
noncomputable def dp (c:Ρ->R Bool) (b:Ρ->SR):Nat->Ρ->SR
 | 0,_=>.stuck
 | n+1,J=>(c J).on J fun t=>if t then (b J).then (dp c b n) else .next J
theorem DU {c:Ρ->R Bool}{b:Ρ->SR}:dp c b (n+1) J=((c J).on J fun t=>if t then (b J).then (dp c b n) else .next J):=rfl
noncomputable def dh (i:Nat) (b:Ρ->SR):List V->Ρ->SR
 | [],J=>.next J
 | x::r,J=>(b (J.set i (some x))).then (dh i b r)
theorem My {i:Nat}{b:Ρ->SR}:dh i b (x::r) J=((b (J.set i (some x))).then (dh i b r)):=rfl
noncomputable def turns:Nat:=100000
section
variable (D:Fn->List V->R V)
mutual
noncomputable def bT:PS->Ρ->SR
 | .assign i e,J=>(ao D e J).on J fun v=>.next (J.set i (some v))
 | .own i e,J=>(ao D e J).on J fun v=>match v with
  | .list _=>.next (J.set i (some v))
  | .cj _=>.next (J.set i (some v))
  | _=>.stuck
 | .aug i e,J=>match J[i]? with
  | some (some (.int a))=>(ao D e J).on J fun v=>match v with
   | .int b=>.next (J.set i (some (.int (a+b))))
   | _=>.stuck
  | _=>.stuck
 | .setItem i aaQ e,J=>(ao D e J).on J fun v=>match J[i]? with
  | some (some (.list xs))=>(ao D aaQ J).on J fun k=>match k with
   | .int k=>if 0<=k/\k<xs.length/\v.gw=true then .next (J.set i (some (.list (xs.set k.toNat v)))) else .stuck
   | _=>.stuck
  | _=>.stuck
 | .append i e,J=>match J[i]? with
  | some (some (.list xs))=>(ao D e J).on J fun v=>if xs.length<lim/\v.gw=true then .next (J.set i (some (.list (xs++[v])))) else .stuck
  | _=>.stuck
 | .push i e,J=>match J[i]? with
  | some (some (.cj s))=>(ao D e J).on J fun v=>match v with
   | .int k=>if 0<=k/\k<256/\s.length<lim then .next (J.set i (some (.cj (s++[k.toNat])))) else .stuck
   | _=>.stuck
  | _=>.stuck
 | .ite c a b,J=>(ao D c J).on J fun v=>v.truth.on J fun t=>if t then ak a J else ak b J
 | .while c b,J=>dp (fun J=>(ao D c J).bind V.truth) (ak b) turns J
 | .for i it b,J=>(gI D it J).on J fun xs=>if xs.length<=lim then dh i (ak b) xs J else .stuck
 | .ret e,J=>(ao D e J).on J fun v=>.ret v
 | .raise x as,J=>(cT D as J).on J fun O=>.exc x J
 | .try b hs,J=>match ak b J with
  | .exc x ρ'=>Iq hs x ρ'
  | r=>r
 | .expr e,J=>(ao D e J).on J fun O=>.next J
noncomputable def ak:aB->Ρ->SR
 | .nil,J=>.next J
 | .cons s r,J=>(bT s J).then (ak r)
noncomputable def Iq:Ip->dC->Ρ->SR
 | .nil,_,_=>.stuck
 | .cons c b r,x,J=>if c.lU x then ak b J else Iq r x J
end
end
theorem zy {D:Fn->List V->R V}:bT D (.assign i e) J=((ao D e J).on J fun v=>.next (J.set i (some v))):=rfl
theorem QX {D:Fn->List V->R V}:bT D (.own i e) J=((ao D e J).on J fun v=>match v with
  | .list _=>.next (J.set i (some v))
  | .cj _=>.next (J.set i (some v))
  | _=>.stuck):=rfl
theorem QY {D:Fn->List V->R V}:bT D (.aug i e) J=(match J[i]? with
  | some (some (.int a))=>(ao D e J).on J fun v=>match v with
   | .int b=>.next (J.set i (some (.int (a+b))))
   | _=>.stuck
  | _=>.stuck):=rfl
theorem uW {D:Fn->List V->R V}:bT D (.append i e) J=(match J[i]? with
  | some (some (.list xs))=>(ao D e J).on J fun v=>if xs.length<lim/\v.gw=true then .next (J.set i (some (.list (xs++[v])))) else .stuck
  | _=>.stuck):=rfl
theorem uX {D:Fn->List V->R V}:bT D (.push i e) J=(match J[i]? with
  | some (some (.cj s))=>(ao D e J).on J fun v=>match v with
   | .int k=>if 0<=k/\k<256/\s.length<lim then .next (J.set i (some (.cj (s++[k.toNat])))) else .stuck
   | _=>.stuck
  | _=>.stuck):=rfl
theorem QZ {D:Fn->List V->R V}:bT D (.ite c a b) J=((ao D c J).on J fun v=>v.truth.on J fun t=>if t then ak D a J else ak D b J):=rfl
theorem Q0 {D:Fn->List V->R V}:bT D (.while c b) J=(dp (fun J=>(ao D c J).bind V.truth) (ak D b) turns J):=rfl
theorem Q1 {D:Fn->List V->R V}:bT D (.for i it b) J=((gI D it J).on J fun xs=>if xs.length<=lim then dh i (ak D b) xs J else .stuck):=rfl
theorem Mz {D:Fn->List V->R V}:bT D (.ret e) J=((ao D e J).on J fun v=>.ret v):=rfl
theorem MA {D:Fn->List V->R V}:bT D (.raise x as) J=((cT D as J).on J fun O=>.exc x J):=rfl
theorem MC {D:Fn->List V->R V}:bT D (.try b hs) J=(match ak D b J with
  | .exc x ρ'=>Iq D hs x ρ'
  | r=>r):=rfl
theorem MD {D:Fn->List V->R V}:bT D (.expr e) J=((ao D e J).on J fun O=>.next J):=rfl
theorem MF {D:Fn->List V->R V}:ak D .nil J=(.next J):=rfl
theorem MG {D:Fn->List V->R V}:ak D (.cons s r) J=((bT D s J).then (ak D r)):=rfl
theorem Q2 {D:Fn->List V->R V}:Iq D .nil u1 u2=(.stuck):=rfl
theorem Q3 {D:Fn->List V->R V}:Iq D (.cons c b r) x J=(if c.lU x then ak D b J else Iq D r x J):=rfl
structure a0 where
 params:Nat
 defaults:List V
 locals:Nat
 body:aB
noncomputable def a0.start (d:a0) (as:List V):Option Ρ:=
 if as.length<=d.params/\d.params<=as.length+d.defaults.length then
  some ((as++d.defaults.drop (d.defaults.length - (d.params - as.length))).map some++List.replicate (d.locals - d.params) none)
 else none
noncomputable def SR.value:SR->R V
 | .next _=>.ok .none
 | .ret v=>.ok v
 | .exc x _=>.exc x
 | .stuck=>.stuck
noncomputable def ae (defs:Fn->a0):Nat->Fn->List V->R V
 | 0,_,_=>.stuck
 | n+1,f,as=>match (defs f).start as with
  | some J=>(ak (ae defs n) (defs f).body J).value
  | none=>.stuck
noncomputable abbrev iP:V:=(.bytes [48,49,50,51,52,53,54,55,56,57,97,98,99,100,101,102])
noncomputable abbrev iQ:V:=(.bytes [0,0,0,0,0,0,0,0,0,0,255,255])
noncomputable abbrev fB:V:=(.int 2)
noncomputable abbrev eF:V:=(.int 10)
noncomputable abbrev cN:V:=(.str [48,49,50,51,52,53,54,55,56,57,97,98,99,100,101,102,65,66,67,68,69,70])
noncomputable abbrev qt:V:=(.str [48,49,50,51,52,53,54,55,56,57,65,66,67,68,69,70])
noncomputable abbrev dU:V:=(.str [48,49,50,51,52,53,54,55,56,57,97,98,99,100,101,102,65,66,67,68,69,70,58,58,58,46,46,46,37,103,120,32,43,45,95])
noncomputable abbrev jN:V:=(.tuple [.int 86063,.int 6,.int 0,.int 0,.int 4,.int 0,.int 0,.int 4111,.int 5,.int 2,.int 5,.int 7,.int 2109825,.int 0,.int 3,.int 0,.int 0,.int 0,.int 0,.int 3,.int 1042,.int 0,.int 2,.int 0,.int 1,.int 36353,.int 224,.int 10,.int 0,.int 255,.int 0,.int 12,.int 4])
noncomputable def DV:PS:=(.ite (.cmp .ne (.prim .len (.cons (.loc 0) .nil)) (.const (.int 4))) (.cons (.raise .syntax .nil)
.nil) .nil)
noncomputable def DW:PS:=(.ret (.qm (.cons (.idx (.loc 0) (.const (.int 0))) .plain (.cons (.const (.str [46])) .plain (.cons (.idx (.loc 0) (.const (.int 1))) .plain (.cons (.const (.str [46])) .plain (.cons (.idx (.loc 0) (.const (.int 2))) .plain (.cons (.const (.str [46])) .plain (.cons (.idx (.loc 0) (.const (.int 3))) .plain .nil)))))))))
noncomputable def DX:aB:=.cons DW .nil
noncomputable def CM:aB:=.cons DV DX
noncomputable def MH:a0:={ params:=1,defaults:=[],locals:=1,body:=CM }
noncomputable def ny:aB:=(.cons (.ite (.not (.aH .isdigit (.loc 3) .nil)) (.cons (.raise .syntax .nil)
.nil) .nil)
(.cons (.ite (.and (.cmp .gt (.prim .len (.cons (.loc 3) .nil)) (.const (.int 1))) (.cmp .eq (.idx (.loc 3) (.const (.int 0))) (.prim .ord (.cons (.const (.str [48])) .nil)))) (.cons (.raise .syntax .nil)
.nil) .nil)
.nil))
noncomputable def DY:PS:=(.ite (.not (.prim .isBytes (.cons (.loc 0) .nil))) (.cons (.assign 1 (.aH .encode (.loc 0) .nil))
.nil) (.cons (.assign 1 (.loc 0))
.nil))
noncomputable def tI:PS:=(.assign 2 (.aH .split (.loc 1) (.cons (.const (.bytes [46])) .nil)))
noncomputable def tJ:PS:=(.ite (.cmp .ne (.prim .len (.cons (.loc 2) .nil)) (.const (.int 4))) (.cons (.raise .syntax .nil)
.nil) .nil)
noncomputable def DZ:PS:=(.for 3 (.val (.loc 2)) ny)
noncomputable def D0:PS:=(.try (.cons (.assign 4 (.comp (.prim .int (.cons (.loc 5) .nil)) 5 (.val (.loc 2)) (.const (.bool true))))
(.cons (.ret (.prim .bytes (.cons (.loc 4) .nil)))
.nil)) (.cons .exception (.cons (.raise .syntax .nil)
.nil) .nil))
noncomputable def D1:aB:=.cons D0 .nil
noncomputable def D2:aB:=.cons DZ D1
noncomputable def D3:aB:=.cons tJ D2
noncomputable def tK:aB:=.cons tI D3
noncomputable def uY:aB:=.cons DY tK
noncomputable def MJ:a0:={ params:=1,defaults:=[],locals:=6,body:=uY }
noncomputable def zA:PS:=(.ret (.call .fi (.cons (.call .eB (.cons (.loc 0) .nil)) .nil)))
noncomputable def qu:aB:=.cons zA .nil
noncomputable def Iz:a0:={ params:=1,defaults:=[],locals:=1,body:=qu }
noncomputable def tL:aB:=(.cons (.assign 5 (.aH .decode (.slice (.loc 1) (.loc 3) (.bin .add (.loc 3) (.const (.int 4)))) .nil))
(.cons (.assign 5 (.or (.aH .lstrip (.loc 5) (.cons (.const (.str [48])) .nil)) (.const (.str [48]))))
(.cons (.append 2 (.loc 5))
(.cons (.aug 3 (.const (.int 4)))
.nil))))
noncomputable def jO:aB:=(.cons (.ite (.cmp .ne (.idx (.loc 2) (.loc 3)) (.const (.str [48]))) (.cons (.ite (.loc 9) (.cons (.assign 10 (.loc 3))
(.cons (.assign 11 (.bin .sub (.loc 10) (.loc 8)))
(.cons (.ite (.cmp .gt (.loc 11) (.loc 7)) (.cons (.assign 6 (.loc 8))
(.cons (.assign 7 (.loc 11))
.nil)) .nil)
(.cons (.assign 9 (.const (.bool false)))
.nil)))) .nil)
.nil) (.cons (.ite (.not (.loc 9)) (.cons (.assign 8 (.loc 3))
(.cons (.assign 9 (.const (.bool true)))
.nil)) .nil)
.nil))
.nil)
noncomputable def D4:PS:=(.ite (.cmp .ne (.prim .len (.cons (.loc 0) .nil)) (.const (.int 16))) (.cons (.raise .value (.cons (.const (.str [73,80,118,54,32,97,100,100,114,101,115,115,101,115,32,97,114,101,32,49,54,32,98,121,116,101,115,32,108,111,110,103])) .nil))
.nil) .nil)
noncomputable def tM:PS:=(.assign 1 (.aH .join (.const (.bytes [])) (.cons (.comp (.bin .add (.slice (.glob iP) (.bin .fdiv (.loc 14) (.const (.int 16))) (.bin .add (.bin .fdiv (.loc 14) (.const (.int 16))) (.const (.int 1)))) (.slice (.glob iP) (.bin .mod (.loc 14) (.const (.int 16))) (.bin .add (.bin .mod (.loc 14) (.const (.int 16))) (.const (.int 1))))) 14 (.val (.loc 0)) (.const (.bool true))) .nil)))
noncomputable def D5:PS:=(.own 2 (.list .nil))
noncomputable def D6:PS:=(.assign 3 (.const (.int 0)))
noncomputable def D7:PS:=(.assign 4 (.prim .len (.cons (.loc 1) .nil)))
noncomputable def D8:PS:=(.while (.cmp .lt (.loc 3) (.loc 4)) tL)
noncomputable def D9:PS:=(.assign 6 (.const (.int 0)))
noncomputable def Ea:PS:=(.assign 7 (.const (.int 0)))
noncomputable def Eb:PS:=(.assign 8 (.const (.int (-1))))
noncomputable def Ec:PS:=(.assign 9 (.const (.bool false)))
noncomputable def zB:PS:=(.for 3 (.sO (.const (.int 0)) (.const (.int 8)) 1) jO)
noncomputable def qv:PS:=(.ite (.loc 9) (.cons (.assign 10 (.const (.int 8)))
(.cons (.assign 11 (.bin .sub (.loc 10) (.loc 8)))
(.cons (.ite (.cmp .gt (.loc 11) (.loc 7)) (.cons (.assign 6 (.loc 8))
(.cons (.assign 7 (.loc 11))
.nil)) .nil)
.nil))) .nil)
noncomputable def qw:PS:=(.ite (.cmp .gt (.loc 7) (.const (.int 1))) (.cons (.ite (.and (.cmp .eq (.loc 6) (.const (.int 0))) (.or (.cmp .eq (.loc 7) (.const (.int 6))) (.and (.cmp .eq (.loc 7) (.const (.int 5))) (.cmp .eq (.idx (.loc 2) (.const (.int 5))) (.const (.str [102,102,102,102])))))) (.cons (.ite (.cmp .eq (.loc 7) (.const (.int 6))) (.cons (.assign 12 (.const (.str [58,58])))
.nil) (.cons (.assign 12 (.const (.str [58,58,102,102,102,102,58])))
.nil))
(.cons (.assign 13 (.bin .add (.loc 12) (.call .fi (.cons (.slice (.loc 0) (.const (.int 12)) (.const .none)) .nil))))
.nil)) (.cons (.assign 13 (.bin .add (.bin .add (.aH .join (.const (.str [58])) (.cons (.slice (.loc 2) (.const .none) (.loc 6)) .nil)) (.const (.str [58,58]))) (.aH .join (.const (.str [58])) (.cons (.slice (.loc 2) (.bin .add (.loc 6) (.loc 7)) (.const .none)) .nil))))
.nil))
.nil) (.cons (.assign 13 (.aH .join (.const (.str [58])) (.cons (.loc 2) .nil)))
.nil))
noncomputable def zC:PS:=(.ret (.loc 13))
noncomputable def zD:aB:=.cons zC .nil
noncomputable def qx:aB:=.cons qw zD
noncomputable def zE:aB:=.cons qv qx
noncomputable def zF:aB:=.cons zB zE
noncomputable def Ed:aB:=.cons Ec zF
noncomputable def Ee:aB:=.cons Eb Ed
noncomputable def Ef:aB:=.cons Ea Ee
noncomputable def Eg:aB:=.cons D9 Ef
noncomputable def Eh:aB:=.cons D8 Eg
noncomputable def Ei:aB:=.cons D7 Eh
noncomputable def Ej:aB:=.cons D6 Ei
noncomputable def Ek:aB:=.cons D5 Ej
noncomputable def El:aB:=.cons tM Ek
noncomputable def lW:aB:=.cons D4 El
noncomputable def MK:a0:={ params:=1,defaults:=[],locals:=15,body:=lW }
noncomputable def nz:aB:=(.cons (.ite (.not (.aH .isdigit (.loc 3) .nil)) (.cons (.ret (.const .none))
.nil) .nil)
.nil)
noncomputable def tN:PS:=(.ite (.aH .endswith (.loc 0) (.cons (.const (.bytes [10])) .nil)) (.cons (.assign 0 (.slice (.loc 0) (.const .none) (.const (.int (-1)))))
.nil) .nil)
noncomputable def tO:PS:=(.assign 1 (.aH .rfind (.loc 0) (.cons (.const (.bytes [58])) .nil)))
noncomputable def tP:PS:=(.assign 2 (.aH .split (.slice (.loc 0) (.bin .add (.loc 1) (.const (.int 1))) (.const .none)) (.cons (.const (.bytes [46])) .nil)))
noncomputable def tQ:PS:=(.ite (.or (.cmp .lt (.loc 1) (.const (.int 0))) (.or (.cmp .isIn (.const (.bytes [10])) (.loc 0)) (.cmp .ne (.prim .len (.cons (.loc 2) .nil)) (.const (.int 4))))) (.cons (.ret (.const .none))
.nil) .nil)
noncomputable def Em:PS:=(.for 3 (.val (.loc 2)) nz)
noncomputable def En:PS:=(.ret (.tuple (.cons (.slice (.loc 0) (.const .none) (.loc 1)) (.cons (.slice (.loc 0) (.bin .add (.loc 1) (.const (.int 1))) (.const .none)) .nil))))
noncomputable def Eo:aB:=.cons En .nil
noncomputable def Ep:aB:=.cons Em Eo
noncomputable def Er:aB:=.cons tQ Ep
noncomputable def Es:aB:=.cons tP Er
noncomputable def Et:aB:=.cons tO Es
noncomputable def CN:aB:=.cons tN Et
noncomputable def ML:a0:={ params:=1,defaults:=[],locals:=4,body:=CN }
noncomputable def tR:aB:=(.cons (.append 9 (.const (.bytes [48,48,48,48])))
.nil)
noncomputable def gK:aB:=(.cons (.ite (.cmp .eq (.loc 10) (.const (.bytes []))) (.cons (.ite (.loc 8) (.cons (.raise .syntax .nil)
.nil) .nil)
(.cons (.assign 8 (.const (.bool true)))
(.cons (.for 11 (.sO (.const (.int 0)) (.bin .add (.bin .sub (.const (.int 8)) (.loc 4)) (.const (.int 1))) 1) tR)
.nil))) (.cons (.assign 12 (.prim .len (.cons (.loc 10) .nil)))
(.cons (.ite (.cmp .gt (.loc 12) (.const (.int 4))) (.cons (.raise .syntax .nil)
.nil) .nil)
(.cons (.ite (.cmp .ne (.loc 12) (.const (.int 4))) (.cons (.assign 10 (.bin .add (.bin .mul (.const (.bytes [48])) (.bin .sub (.const (.int 4)) (.loc 12))) (.loc 10)))
.nil) .nil)
(.cons (.append 9 (.loc 10))
.nil)))))
.nil)
noncomputable def gL:aB:=(.cons (.assign 15 (.aH .find (.glob iP) (.cons (.aH .lower (.slice (.loc 2) (.loc 14) (.bin .add (.loc 14) (.const (.int 1)))) .nil) .nil)))
(.cons (.assign 16 (.aH .find (.glob iP) (.cons (.aH .lower (.slice (.loc 2) (.bin .add (.loc 14) (.const (.int 1))) (.bin .add (.loc 14) (.const (.int 2)))) .nil) .nil)))
(.cons (.ite (.or (.cmp .lt (.loc 15) (.const (.int 0))) (.cmp .lt (.loc 16) (.const (.int 0)))) (.cons (.raise .syntax .nil)
.nil) .nil)
(.cons (.push 13 (.bin .add (.bin .mul (.loc 15) (.const (.int 16))) (.loc 16)))
.nil))))
noncomputable def nA:PS:=(.ite (.not (.prim .isBytes (.cons (.loc 0) .nil))) (.cons (.assign 2 (.aH .encode (.loc 0) .nil))
.nil) (.cons (.assign 2 (.loc 0))
.nil))
noncomputable def Eu:PS:=(.ite (.loc 1) (.cons (.assign 3 (.aH .split (.loc 2) (.cons (.const (.bytes [37])) .nil)))
(.cons (.assign 4 (.prim .len (.cons (.loc 3) .nil)))
(.cons (.ite (.cmp .eq (.loc 4) (.const (.int 2))) (.cons (.assign 2 (.idx (.loc 3) (.const (.int 0))))
.nil) (.cons (.ite (.cmp .gt (.loc 4) (.const (.int 2))) (.cons (.raise .syntax .nil)
.nil) .nil)
.nil))
.nil))) .nil)
noncomputable def Ew:PS:=(.ite (.cmp .eq (.loc 2) (.const (.bytes []))) (.cons (.raise .syntax .nil)
.nil) (.cons (.ite (.and (.aH .endswith (.loc 2) (.cons (.const (.bytes [58])) .nil)) (.not (.aH .endswith (.loc 2) (.cons (.const (.bytes [58,58])) .nil)))) (.cons (.raise .syntax .nil)
.nil) (.cons (.ite (.and (.aH .startswith (.loc 2) (.cons (.const (.bytes [58])) .nil)) (.not (.aH .startswith (.loc 2) (.cons (.const (.bytes [58,58])) .nil)))) (.cons (.raise .syntax .nil)
.nil) (.cons (.ite (.cmp .eq (.loc 2) (.const (.bytes [58,58]))) (.cons (.assign 2 (.const (.bytes [48,58,58])))
.nil) .nil)
.nil))
.nil))
.nil))
noncomputable def Ey:PS:=(.assign 5 (.call .qh (.cons (.loc 2) .nil)))
noncomputable def Ez:PS:=(.ite (.cmp .lT (.loc 5) (.const .none)) (.cons (.assign 6 (.call .eB (.cons (.idx (.loc 5) (.const (.int 1))) .nil)))
(.cons (.assign 2 (.aH .encode (.qm (.cons (.aH .decode (.idx (.loc 5) (.const (.int 0))) .nil) .plain (.cons (.const (.str [58])) .plain (.cons (.idx (.loc 6) (.const (.int 0))) .uU (.cons (.idx (.loc 6) (.const (.int 1))) .uU (.cons (.const (.str [58])) .plain (.cons (.idx (.loc 6) (.const (.int 2))) .uU (.cons (.idx (.loc 6) (.const (.int 3))) .uU .nil)))))))) .nil))
.nil)) .nil)
noncomputable def tS:PS:=(.ite (.aH .startswith (.loc 2) (.cons (.const (.bytes [58,58])) .nil)) (.cons (.assign 2 (.slice (.loc 2) (.const (.int 1)) (.const .none)))
.nil) (.cons (.ite (.aH .endswith (.loc 2) (.cons (.const (.bytes [58,58])) .nil)) (.cons (.assign 2 (.slice (.loc 2) (.const .none) (.const (.int (-1)))))
.nil) .nil)
.nil))
noncomputable def EA:PS:=(.assign 7 (.aH .split (.loc 2) (.cons (.const (.bytes [58])) .nil)))
noncomputable def EB:PS:=(.assign 4 (.prim .len (.cons (.loc 7) .nil)))
noncomputable def EC:PS:=(.ite (.cmp .gt (.loc 4) (.const (.int 8))) (.cons (.raise .syntax .nil)
.nil) .nil)
noncomputable def ED:PS:=(.assign 8 (.const (.bool false)))
noncomputable def zG:PS:=(.own 9 (.list .nil))
noncomputable def qy:PS:=(.for 10 (.val (.loc 7)) gK)
noncomputable def zH:PS:=(.ite (.and (.cmp .lt (.loc 4) (.const (.int 8))) (.not (.loc 8))) (.cons (.raise .syntax .nil)
.nil) .nil)
noncomputable def zI:PS:=(.assign 2 (.aH .join (.const (.bytes [])) (.cons (.loc 9) .nil)))
noncomputable def zJ:PS:=(.own 13 (.prim .cj .nil))
noncomputable def qz:PS:=(.for 14 (.sO (.const (.int 0)) (.prim .len (.cons (.loc 2) .nil)) 2) gL)
noncomputable def zK:PS:=(.ret (.prim .bytes (.cons (.loc 13) .nil)))
noncomputable def zL:aB:=.cons zK .nil
noncomputable def qA:aB:=.cons qz zL
noncomputable def zM:aB:=.cons zJ qA
noncomputable def kY:aB:=.cons zI zM
noncomputable def zN:aB:=.cons zH kY
noncomputable def qB:aB:=.cons qy zN
noncomputable def zO:aB:=.cons zG qB
noncomputable def EE:aB:=.cons ED zO
noncomputable def tT:aB:=.cons EC EE
noncomputable def EF:aB:=.cons EB tT
noncomputable def EG:aB:=.cons EA EF
noncomputable def nB:aB:=.cons tS EG
noncomputable def tU:aB:=.cons Ez nB
noncomputable def jP:aB:=.cons Ey tU
noncomputable def jQ:aB:=.cons Ew jP
noncomputable def nE:aB:=.cons Eu jQ
noncomputable def uZ:aB:=.cons nA nE
noncomputable def CP:a0:={ params:=2,defaults:=[.bool false],locals:=17,body:=uZ }
noncomputable def zP:PS:=(.ret (.aH .startswith (.loc 0) (.cons (.glob iQ) .nil)))
noncomputable def IA:aB:=.cons zP .nil
noncomputable def IB:a0:={ params:=1,defaults:=[],locals:=1,body:=IA }
noncomputable def zQ:PS:=(.ret (.call .fM (.cons (.call .bN (.cons (.loc 0) .nil)) .nil)))
noncomputable def qC:aB:=.cons zQ .nil
noncomputable def IC:a0:={ params:=1,defaults:=[],locals:=1,body:=qC }
noncomputable def IE:PS:=(.ite (.cmp .eq (.loc 0) (.glob fB)) (.cons (.ret (.call .eB (.cons (.loc 1) .nil)))
.nil) (.cons (.ite (.cmp .eq (.loc 0) (.glob eF)) (.cons (.ret (.call .bN (.cons (.loc 1) (.cons (.const (.bool true)) .nil))))
.nil) (.cons (.raise .bX .nil)
.nil))
.nil))
noncomputable def Q4:aB:=.cons IE .nil
noncomputable def Q5:a0:={ params:=2,defaults:=[],locals:=2,body:=Q4 }
noncomputable def IG:PS:=(.ite (.cmp .eq (.loc 0) (.glob fB)) (.cons (.ret (.call .fi (.cons (.loc 1) .nil)))
.nil) (.cons (.ite (.cmp .eq (.loc 0) (.glob eF)) (.cons (.ret (.call .fM (.cons (.loc 1) .nil)))
.nil) (.cons (.raise .bX .nil)
.nil))
.nil))
noncomputable def Q6:aB:=.cons IG .nil
noncomputable def Q7:a0:={ params:=2,defaults:=[],locals:=2,body:=Q6 }
noncomputable def EH:PS:=(.try (.cons (.expr (.call .eB (.cons (.loc 0) .nil)))
(.cons (.ret (.glob fB))
.nil)) (.cons .exception (.cons (.try (.cons (.expr (.call .bN (.cons (.loc 0) (.cons (.const (.bool true)) .nil))))
(.cons (.ret (.glob eF))
.nil)) (.cons .exception (.cons (.raise .value .nil)
.nil) .nil))
.nil) .nil))
noncomputable def CQ:aB:=.cons EH .nil
noncomputable def MN:a0:={ params:=1,defaults:=[],locals:=1,body:=CQ }
noncomputable def EI:PS:=(.try (.cons (.assign 1 (.idx (.call .eB (.cons (.loc 0) .nil)) (.const (.int 0))))
(.cons (.ret (.and (.cmp .ge (.loc 1) (.const (.int 224))) (.cmp .le (.loc 1) (.const (.int 239)))))
.nil)) (.cons .exception (.cons (.try (.cons (.assign 1 (.idx (.call .bN (.cons (.loc 0) (.cons (.const (.bool true)) .nil))) (.const (.int 0))))
(.cons (.ret (.cmp .eq (.loc 1) (.const (.int 255))))
.nil)) (.cons .exception (.cons (.raise .value .nil)
.nil) .nil))
.nil) .nil))
noncomputable def CT:aB:=.cons EI .nil
noncomputable def MP:a0:={ params:=1,defaults:=[],locals:=2,body:=CT }
noncomputable def zR:PS:=(.try (.cons (.expr (.call .eB (.cons (.loc 0) .nil)))
(.cons (.ret (.const (.bool true)))
.nil)) (.cons .exception (.cons (.try (.cons (.expr (.call .bN (.cons (.loc 0) (.cons (.const (.bool true)) .nil))))
(.cons (.ret (.const (.bool true)))
.nil)) (.cons .exception (.cons (.ret (.const (.bool false)))
.nil) .nil))
.nil) .nil))
noncomputable def w9:aB:=.cons zR .nil
noncomputable def IH:a0:={ params:=1,defaults:=[],locals:=1,body:=w9 }
noncomputable def EJ:PS:=(.ite (.cmp .eq (.loc 0) (.glob fB)) (.cons (.ret (.const (.str [48,46,48,46,48,46,48])))
.nil) (.cons (.ite (.cmp .eq (.loc 0) (.glob eF)) (.cons (.ret (.const (.str [58,58])))
.nil) .nil)
.nil))
noncomputable def EK:PS:=(.raise .bX (.cons (.qm (.cons (.const (.str [117,110,107,110,111,119,110,32,97,100,100,114,101,115,115,32,102,97,109,105,108,121,32])) .plain (.cons (.loc 0) .plain .nil))) .nil))
noncomputable def EL:aB:=.cons EK .nil
noncomputable def CV:aB:=.cons EJ EL
noncomputable def MQ:a0:={ params:=1,defaults:=[],locals:=1,body:=CV }
noncomputable def zS:PS:=(.try (.cons (.ret (.call .i7 (.cons (.loc 0) .nil)))
.nil) (.cons .exception (.cons (.try (.cons (.ret (.call .i6 (.cons (.loc 0) .nil)))
.nil) (.cons .exception (.cons (.raise .value .nil)
.nil) .nil))
.nil) .nil))
noncomputable def xc:aB:=.cons zS .nil
noncomputable def II:a0:={ params:=1,defaults:=[],locals:=1,body:=xc }
noncomputable def MR:PS:=(.ite (.cmp .lt (.loc 1) (.prim .len (.cons (.loc 0) .nil))) (.cons (.ret (.idx (.loc 0) (.loc 1)))
.nil) .nil)
noncomputable def MT:PS:=(.ret (.idx (.glob jN) (.loc 1)))
noncomputable def MV:aB:=.cons MT .nil
noncomputable def PZ:aB:=.cons MR MV
noncomputable def Ts:a0:={ params:=2,defaults:=[],locals:=2,body:=PZ }
noncomputable def jf:aB:=(.cons (.assign 3 (.bin .mod (.call .qi (.cons (.loc 0) (.cons (.loc 2) .nil))) (.const (.int 524288))))
(.cons (.assign 4 (.bin .mod (.loc 3) (.const (.int 8))))
(.cons (.ite (.cmp .lt (.loc 4) (.const (.int 4))) (.cons (.append 1 (.const (.int 0)))
.nil) (.cons (.ite (.cmp .eq (.loc 4) (.const (.int 4))) (.cons (.append 1 (.const (.int 1)))
.nil) (.cons (.ite (.cmp .eq (.loc 4) (.const (.int 5))) (.cons (.append 1 (.const (.int 65535)))
.nil) (.cons (.ite (.cmp .eq (.loc 4) (.const (.int 6))) (.cons (.append 1 (.const (.int 3512)))
.nil) (.cons (.append 1 (.bin .fdiv (.loc 3) (.const (.int 8))))
.nil))
.nil))
.nil))
.nil))
.nil)))
noncomputable def xd:PS:=(.own 1 (.list .nil))
noncomputable def xg:PS:=(.for 2 (.sO (.const (.int 0)) (.const (.int 8)) 1) jf)
noncomputable def xh:PS:=(.assign 5 (.bin .mod (.call .qi (.cons (.loc 0) (.cons (.const (.int 8)) .nil))) (.const (.int 8))))
noncomputable def oP:PS:=(.ite (.cmp .lt (.loc 5) (.const (.int 2))) (.cons (.own 1 (.bin .add (.list (.cons (.const (.int 0)) (.cons (.const (.int 0)) (.cons (.const (.int 0)) (.cons (.const (.int 0)) (.cons (.const (.int 0)) .nil)))))) (.slice (.loc 1) (.const (.int 5)) (.const .none))))
(.cons (.ite (.cmp .eq (.loc 5) (.const (.int 0))) (.cons (.setItem 1 (.const (.int 5)) (.const (.int 65535)))
.nil) (.cons (.setItem 1 (.const (.int 5)) (.const (.int 0)))
.nil))
.nil)) .nil)
noncomputable def xj:PS:=(.ret (.loc 1))
noncomputable def xk:aB:=.cons xj .nil
noncomputable def xl:aB:=.cons oP xk
noncomputable def xm:aB:=.cons xh xl
noncomputable def xq:aB:=.cons xg xm
noncomputable def tV:aB:=.cons xd xq
noncomputable def EP:a0:={ params:=1,defaults:=[],locals:=6,body:=tV }
noncomputable def oQ:aB:=(.cons (.append 1 (.bin .fdiv (.loc 2) (.const (.int 256))))
(.cons (.append 1 (.bin .mod (.loc 2) (.const (.int 256))))
.nil))
noncomputable def xr:PS:=(.own 1 (.list .nil))
noncomputable def xt:PS:=(.for 2 (.val (.loc 0)) oQ)
noncomputable def xu:PS:=(.ret (.prim .bytes (.cons (.loc 1) .nil)))
noncomputable def xv:aB:=.cons xu .nil
noncomputable def xx:aB:=.cons xt xv
noncomputable def tW:aB:=.cons xr xx
noncomputable def ER:a0:={ params:=1,defaults:=[],locals:=3,body:=tW }
noncomputable def nF:aB:=(.cons (.assign 3 (.bin .add (.idx (.loc 2) (.bin .mod (.loc 0) (.const (.int 16)))) (.loc 3)))
(.cons (.assign 0 (.bin .fdiv (.loc 0) (.const (.int 16))))
.nil))
noncomputable def EV:PS:=(.assign 3 (.const (.str [])))
noncomputable def EW:PS:=(.while (.or (.cmp .gt (.loc 0) (.const (.int 0))) (.cmp .lt (.prim .len (.cons (.loc 3) .nil)) (.loc 1))) nF)
noncomputable def EX:PS:=(.ret (.loc 3))
noncomputable def EY:aB:=.cons EX .nil
noncomputable def EZ:aB:=.cons EW EY
noncomputable def CW:aB:=.cons EV EZ
noncomputable def MX:a0:={ params:=3,defaults:=[],locals:=4,body:=CW }
noncomputable def E0:PS:=(.ret (.aH .join (.const (.str [46])) (.cons (.comp (.prim .str (.cons (.loc 1) .nil)) 1 (.val (.loc 0)) (.const (.bool true))) .nil)))
noncomputable def CX:aB:=.cons E0 .nil
noncomputable def MY:a0:={ params:=1,defaults:=[],locals:=2,body:=CX }
noncomputable def zT:PS:=(.ret (.list (.cons (.bin .fdiv (.idx (.loc 0) (.const (.int 0))) (.const (.int 256))) (.cons (.bin .mod (.idx (.loc 0) (.const (.int 0))) (.const (.int 256))) (.cons (.bin .fdiv (.idx (.loc 0) (.const (.int 1))) (.const (.int 256))) (.cons (.bin .mod (.idx (.loc 0) (.const (.int 1))) (.const (.int 256))) .nil))))))
noncomputable def qD:aB:=.cons zT .nil
noncomputable def IJ:a0:={ params:=1,defaults:=[],locals:=1,body:=qD }
noncomputable def iu:aB:=(.cons (.ite (.cmp .eq (.slice (.loc 0) (.loc 3) (.bin .add (.loc 3) (.loc 2))) (.bin .mul (.list (.cons (.const (.int 0)) .nil)) (.loc 2))) (.cons (.ite (.and (.cmp .eq (.loc 3) (.const (.int 0))) (.cmp .eq (.loc 2) (.const (.int 6)))) (.cons (.ret (.bin .add (.const (.str [58,58])) (.call .iO (.cons (.call .eZ (.cons (.slice (.loc 0) (.const (.int 6)) (.const .none)) .nil)) .nil))))
.nil) .nil)
(.cons (.ite (.and (.cmp .eq (.loc 3) (.const (.int 0))) (.and (.cmp .eq (.loc 2) (.const (.int 5))) (.cmp .eq (.idx (.loc 0) (.const (.int 5))) (.const (.int 65535))))) (.cons (.ret (.bin .add (.const (.str [58,58,102,102,102,102,58])) (.call .iO (.cons (.call .eZ (.cons (.slice (.loc 0) (.const (.int 6)) (.const .none)) .nil)) .nil))))
.nil) .nil)
(.cons (.ret (.bin .add (.bin .add (.aH .join (.const (.str [58])) (.cons (.slice (.loc 1) (.const .none) (.loc 3)) .nil)) (.const (.str [58,58]))) (.aH .join (.const (.str [58])) (.cons (.slice (.loc 1) (.bin .add (.loc 3) (.loc 2)) (.const .none)) .nil))))
.nil))) .nil)
.nil)
noncomputable def kZ:aB:=(.cons (.for 3 (.sO (.const (.int 0)) (.bin .sub (.const (.int 9)) (.loc 2)) 1) iu)
(.cons (.assign 2 (.bin .sub (.loc 2) (.const (.int 1))))
.nil))
noncomputable def zU:PS:=(.assign 1 (.comp (.call .iN (.cons (.loc 4) (.cons (.const (.int 1)) (.cons (.glob cN) .nil)))) 4 (.val (.loc 0)) (.const (.bool true))))
noncomputable def zV:PS:=(.assign 2 (.const (.int 8)))
noncomputable def zW:PS:=(.while (.cmp .gt (.loc 2) (.const (.int 1))) kZ)
noncomputable def zX:PS:=(.ret (.aH .join (.const (.str [58])) (.cons (.loc 1) .nil)))
noncomputable def zY:aB:=.cons zX .nil
noncomputable def zZ:aB:=.cons zW zY
noncomputable def z6:aB:=.cons zV zZ
noncomputable def xA:aB:=.cons zU z6
noncomputable def IK:a0:={ params:=1,defaults:=[],locals:=5,body:=xA }
noncomputable def gM:aB:=(.cons (.ite (.cmp .eq (.loc 4) (.const (.str [46]))) (.cons (.ite (.or (.cmp .ne (.prim .str (.cons (.loc 3) .nil)) (.loc 2)) (.cmp .gt (.loc 3) (.const (.int 255)))) (.cons (.ret (.list .nil))
.nil) .nil)
(.cons (.append 1 (.loc 3))
(.cons (.assign 2 (.const (.str [])))
(.cons (.assign 3 (.const (.int 0)))
.nil)))) (.cons (.assign 5 (.aH .find (.glob cN) (.cons (.loc 4) .nil)))
(.cons (.ite (.or (.cmp .lt (.loc 5) (.const (.int 0))) (.cmp .gt (.loc 5) (.const (.int 9)))) (.cons (.ret (.list .nil))
.nil) .nil)
(.cons (.assign 2 (.bin .add (.loc 2) (.loc 4)))
(.cons (.assign 3 (.bin .add (.bin .mul (.loc 3) (.const (.int 10))) (.loc 5)))
.nil)))))
.nil)
noncomputable def E1:PS:=(.own 1 (.list .nil))
noncomputable def E2:PS:=(.assign 2 (.const (.str [])))
noncomputable def E3:PS:=(.assign 3 (.const (.int 0)))
noncomputable def E4:PS:=(.for 4 (.val (.bin .add (.loc 0) (.const (.str [46])))) gM)
noncomputable def E5:PS:=(.ite (.cmp .ne (.prim .len (.cons (.loc 1) .nil)) (.const (.int 4))) (.cons (.ret (.list .nil))
.nil) .nil)
noncomputable def E6:PS:=(.ret (.loc 1))
noncomputable def E7:aB:=.cons E6 .nil
noncomputable def E8:aB:=.cons E5 E7
noncomputable def E9:aB:=.cons E4 E8
noncomputable def Fb:aB:=.cons E3 E9
noncomputable def Fc:aB:=.cons E2 Fb
noncomputable def CY:aB:=.cons E1 Fc
noncomputable def MZ:a0:={ params:=1,defaults:=[],locals:=6,body:=CY }
noncomputable def fO:aB:=(.cons (.assign 3 (.aH .find (.glob cN) (.cons (.loc 2) .nil)))
(.cons (.ite (.cmp .lt (.loc 3) (.const (.int 0))) (.cons (.ret (.const (.int (-1))))
.nil) .nil)
(.cons (.ite (.cmp .gt (.loc 3) (.const (.int 15))) (.cons (.assign 3 (.bin .sub (.loc 3) (.const (.int 6))))
.nil) .nil)
(.cons (.assign 1 (.bin .add (.bin .mul (.loc 1) (.const (.int 16))) (.loc 3)))
.nil))))
noncomputable def z7:PS:=(.ite (.or (.cmp .lt (.prim .len (.cons (.loc 0) .nil)) (.const (.int 1))) (.cmp .gt (.prim .len (.cons (.loc 0) .nil)) (.const (.int 4)))) (.cons (.ret (.const (.int (-1))))
.nil) .nil)
noncomputable def z8:PS:=(.assign 1 (.const (.int 0)))
noncomputable def qE:PS:=(.for 2 (.val (.loc 0)) fO)
noncomputable def z9:PS:=(.ret (.loc 1))
noncomputable def Aa:aB:=.cons z9 .nil
noncomputable def qF:aB:=.cons qE Aa
noncomputable def Ab:aB:=.cons z8 qF
noncomputable def jg:aB:=.cons z7 Ab
noncomputable def IL:a0:={ params:=1,defaults:=[],locals:=4,body:=jg }
noncomputable def fC:aB:=(.cons (.assign 5 (.call .jd (.cons (.idx (.loc 3) (.loc 4)) .nil)))
(.cons (.ite (.cmp .ge (.loc 5) (.const (.int 0))) (.cons (.append 2 (.loc 5))
.nil) (.cons (.assign 6 (.call .lR (.cons (.idx (.loc 3) (.loc 4)) .nil)))
(.cons (.ite (.or (.cmp .eq (.loc 6) (.list .nil)) (.or (.not (.loc 1)) (.cmp .ne (.loc 4) (.bin .sub (.prim .len (.cons (.loc 3) .nil)) (.const (.int 1)))))) (.cons (.ret (.const .none))
.nil) .nil)
(.cons (.append 2 (.bin .add (.bin .mul (.idx (.loc 6) (.const (.int 0))) (.const (.int 256))) (.idx (.loc 6) (.const (.int 1)))))
(.cons (.append 2 (.bin .add (.bin .mul (.idx (.loc 6) (.const (.int 2))) (.const (.int 256))) (.idx (.loc 6) (.const (.int 3)))))
.nil)))))
.nil))
noncomputable def Fd:PS:=(.ite (.cmp .eq (.loc 0) (.const (.str []))) (.cons (.ret (.list .nil))
.nil) .nil)
noncomputable def Fe:PS:=(.own 2 (.list .nil))
noncomputable def Ff:PS:=(.assign 3 (.aH .split (.loc 0) (.cons (.const (.str [58])) .nil)))
noncomputable def tX:PS:=(.for 4 (.sO (.const (.int 0)) (.prim .len (.cons (.loc 3) .nil)) 1) fC)
noncomputable def Fg:PS:=(.ret (.loc 2))
noncomputable def Fh:aB:=.cons Fg .nil
noncomputable def tY:aB:=.cons tX Fh
noncomputable def Fi:aB:=.cons Ff tY
noncomputable def Fj:aB:=.cons Fe Fi
noncomputable def lX:aB:=.cons Fd Fj
noncomputable def M0:a0:={ params:=2,defaults:=[],locals:=7,body:=lX }
noncomputable def tZ:PS:=(.assign 1 (.comp (.loc 5) 5 (.sO (.const (.int 0)) (.prim .len (.cons (.loc 0) .nil)) 1) (.cmp .eq (.slice (.loc 0) (.loc 5) (.bin .add (.loc 5) (.const (.int 2)))) (.const (.str [58,58])))))
noncomputable def Fl:PS:=(.ite (.cmp .gt (.prim .len (.cons (.loc 1) .nil)) (.const (.int 1))) (.cons (.ret (.const .none))
.nil) .nil)
noncomputable def Fm:PS:=(.ite (.cmp .eq (.prim .len (.cons (.loc 1) .nil)) (.const (.int 0))) (.cons (.assign 2 (.call .lS (.cons (.loc 0) (.cons (.const (.bool true)) .nil))))
(.cons (.ite (.or (.cmp .is (.loc 2) (.const .none)) (.cmp .ne (.prim .len (.cons (.loc 2) .nil)) (.const (.int 8)))) (.cons (.ret (.const .none))
.nil) .nil)
(.cons (.ret (.loc 2))
.nil))) .nil)
noncomputable def Fo:PS:=(.assign 3 (.call .lS (.cons (.slice (.loc 0) (.const .none) (.idx (.loc 1) (.const (.int 0)))) (.cons (.const (.bool false)) .nil))))
noncomputable def Fp:PS:=(.assign 4 (.call .lS (.cons (.slice (.loc 0) (.bin .add (.idx (.loc 1) (.const (.int 0))) (.const (.int 2))) (.const .none)) (.cons (.const (.bool true)) .nil))))
noncomputable def Fq:PS:=(.ite (.or (.cmp .is (.loc 3) (.const .none)) (.or (.cmp .is (.loc 4) (.const .none)) (.cmp .gt (.bin .add (.prim .len (.cons (.loc 3) .nil)) (.prim .len (.cons (.loc 4) .nil))) (.const (.int 7))))) (.cons (.ret (.const .none))
.nil) .nil)
noncomputable def t5:PS:=(.ret (.bin .add (.bin .add (.loc 3) (.bin .mul (.list (.cons (.const (.int 0)) .nil)) (.bin .sub (.bin .sub (.const (.int 8)) (.prim .len (.cons (.loc 3) .nil))) (.prim .len (.cons (.loc 4) .nil))))) (.loc 4)))
noncomputable def Ft:aB:=.cons t5 .nil
noncomputable def t7:aB:=.cons Fq Ft
noncomputable def Fu:aB:=.cons Fp t7
noncomputable def Fv:aB:=.cons Fo Fu
noncomputable def Fw:aB:=.cons Fm Fv
noncomputable def t8:aB:=.cons Fl Fw
noncomputable def iw:aB:=.cons tZ t8
noncomputable def M3:a0:={ params:=1,defaults:=[],locals:=6,body:=iw }
noncomputable def Fx:PS:=(.try (.cons (.ite (.cmp .eq (.loc 0) (.const (.int 0))) (.cons (.assign 3 (.call .bN (.cons (.loc 1) .nil)))
.nil) (.cons (.ite (.cmp .eq (.loc 0) (.const (.int 1))) (.cons (.assign 3 (.call .bN (.cons (.loc 1) (.cons (.const (.bool true)) .nil))))
.nil) (.cons (.ite (.cmp .eq (.loc 0) (.const (.int 2))) (.cons (.assign 3 (.call .bN (.cons (.aH .encode (.loc 1) .nil) .nil)))
.nil) (.cons (.ite (.cmp .eq (.loc 0) (.const (.int 3))) (.cons (.assign 3 (.call .uS (.cons (.loc 2) (.cons (.loc 1) .nil))))
.nil) (.cons (.ite (.cmp .eq (.loc 0) (.const (.int 4))) (.cons (.assign 3 (.call .oN (.cons (.loc 1) .nil)))
.nil) (.cons (.ite (.cmp .eq (.loc 0) (.const (.int 5))) (.cons (.assign 3 (.call .i9 (.cons (.loc 1) .nil)))
.nil) (.cons (.ite (.cmp .eq (.loc 0) (.const (.int 6))) (.cons (.assign 3 (.call .multi (.cons (.loc 1) .nil)))
.nil) (.cons (.ite (.cmp .eq (.loc 0) (.const (.int 7))) (.cons (.assign 3 (.call .eY (.cons (.loc 1) .nil)))
.nil) (.cons (.ite (.cmp .eq (.loc 0) (.const (.int 8))) (.cons (.assign 3 (.call .fM (.cons (.loc 1) .nil)))
.nil) (.cons (.ite (.cmp .eq (.loc 0) (.const (.int 9))) (.cons (.assign 3 (.call .uT (.cons (.loc 2) (.cons (.loc 1) .nil))))
.nil) (.cons (.assign 3 (.call .oO (.cons (.loc 2) .nil)))
.nil))
.nil))
.nil))
.nil))
.nil))
.nil))
.nil))
.nil))
.nil))
.nil))
.nil) (.cons .tF (.cons (.ret (.tuple (.cons (.const (.str [114,97,105,115,101,100])) (.cons (.const (.str [97,110,111,116,104,101,114])) .nil))))
.nil) (.cons .tooBig (.cons (.ret (.tuple (.cons (.const (.str [114,97,105,115,101,100])) (.cons (.const (.str [97,110,111,116,104,101,114])) .nil))))
.nil) (.cons .kr (.cons (.ret (.tuple (.cons (.const (.str [114,97,105,115,101,100])) (.cons (.const (.str [97,110,111,116,104,101,114])) .nil))))
.nil) (.cons .ig (.cons (.ret (.tuple (.cons (.const (.str [114,97,105,115,101,100])) (.cons (.const (.str [115,121,110,116,97,120])) .nil))))
.nil) (.cons .kS (.cons (.ret (.tuple (.cons (.const (.str [114,97,105,115,101,100])) (.cons (.const (.str [118,97,108,117,101])) .nil))))
.nil) (.cons .notImplemented (.cons (.ret (.tuple (.cons (.const (.str [114,97,105,115,101,100])) (.cons (.const (.str [102,97,109,105,108,121])) .nil))))
.nil) .nil)))))))
noncomputable def Fy:PS:=(.ret (.tuple (.cons (.const (.str [116,111,108,100])) (.cons (.loc 3) .nil))))
noncomputable def Fz:aB:=.cons Fy .nil
noncomputable def ix:aB:=.cons Fx Fz
noncomputable def M4:a0:={ params:=3,defaults:=[],locals:=4,body:=ix }
noncomputable def Ac:PS:=(.ite (.cmp .eq (.loc 0) (.const (.int 2))) (.cons (.ret (.loc 1))
.nil) .nil)
noncomputable def Ad:PS:=(.ite (.cmp .eq (.loc 0) (.const (.int 10))) (.cons (.ret (.loc 2))
.nil) .nil)
noncomputable def Ae:PS:=(.ret (.tuple (.cons (.const (.str [114,97,105,115,101,100])) (.cons (.const (.str [102,97,109,105,108,121])) .nil))))
noncomputable def Af:aB:=.cons Ae .nil
noncomputable def Ag:aB:=.cons Ad Af
noncomputable def xB:aB:=.cons Ac Ag
noncomputable def IM:a0:={ params:=3,defaults:=[],locals:=3,body:=xB }
noncomputable def FC:PS:=(.assign 2 (.call .lR (.cons (.loc 0) .nil)))
noncomputable def FD:PS:=(.assign 3 (.call .gH (.cons (.loc 0) .nil)))
noncomputable def FE:PS:=(.assign 4 (.loc 3))
noncomputable def t9:PS:=(.assign 5 (.comp (.loc 13) 13 (.sO (.const (.int 0)) (.prim .len (.cons (.loc 0) .nil)) 1) (.cmp .eq (.idx (.loc 0) (.loc 13)) (.const (.str [37])))))
noncomputable def ua:PS:=(.ite (.cmp .eq (.prim .len (.cons (.loc 5) .nil)) (.const (.int 1))) (.cons (.assign 4 (.call .gH (.cons (.slice (.loc 0) (.const .none) (.idx (.loc 5) (.const (.int 0)))) .nil)))
.nil) .nil)
noncomputable def FG:PS:=(.assign 6 (.tuple (.cons (.const (.str [114,97,105,115,101,100])) (.cons (.const (.str [115,121,110,116,97,120])) .nil))))
noncomputable def FH:PS:=(.assign 7 (.tuple (.cons (.const (.str [114,97,105,115,101,100])) (.cons (.const (.str [115,121,110,116,97,120])) .nil))))
noncomputable def FI:PS:=(.assign 8 (.tuple (.cons (.const (.str [114,97,105,115,101,100])) (.cons (.const (.str [115,121,110,116,97,120])) .nil))))
noncomputable def FJ:PS:=(.assign 9 (.tuple (.cons (.const (.str [114,97,105,115,101,100])) (.cons (.const (.str [118,97,108,117,101])) .nil))))
noncomputable def FK:PS:=(.assign 10 (.tuple (.cons (.const (.str [116,111,108,100])) (.cons (.const (.bool false)) .nil))))
noncomputable def Ah:PS:=(.assign 11 (.tuple (.cons (.const (.str [114,97,105,115,101,100])) (.cons (.const (.str [118,97,108,117,101])) .nil))))
noncomputable def Ai:PS:=(.assign 12 (.tuple (.cons (.const (.str [114,97,105,115,101,100])) (.cons (.const (.str [118,97,108,117,101])) .nil))))
noncomputable def qG:PS:=(.ite (.cmp .ne (.loc 2) (.list .nil)) (.cons (.assign 6 (.tuple (.cons (.const (.str [116,111,108,100])) (.cons (.prim .bytes (.cons (.loc 2) .nil)) .nil))))
(.cons (.assign 9 (.tuple (.cons (.const (.str [116,111,108,100])) (.cons (.const (.int 2)) .nil))))
(.cons (.assign 10 (.tuple (.cons (.const (.str [116,111,108,100])) (.cons (.const (.bool true)) .nil))))
(.cons (.assign 11 (.tuple (.cons (.const (.str [116,111,108,100])) (.cons (.cmp .eq (.bin .fdiv (.idx (.loc 2) (.const (.int 0))) (.const (.int 16))) (.const (.int 14))) .nil))))
(.cons (.assign 12 (.tuple (.cons (.const (.str [116,111,108,100])) (.cons (.loc 0) .nil))))
.nil))))) .nil)
noncomputable def qH:PS:=(.ite (.cmp .lT (.loc 4) (.const .none)) (.cons (.assign 8 (.tuple (.cons (.const (.str [116,111,108,100])) (.cons (.call .eO (.cons (.loc 4) .nil)) .nil))))
(.cons (.assign 9 (.tuple (.cons (.const (.str [116,111,108,100])) (.cons (.const (.int 10)) .nil))))
(.cons (.assign 10 (.tuple (.cons (.const (.str [116,111,108,100])) (.cons (.const (.bool true)) .nil))))
(.cons (.assign 11 (.tuple (.cons (.const (.str [116,111,108,100])) (.cons (.cmp .ge (.idx (.loc 4) (.const (.int 0))) (.const (.int 65280))) .nil))))
.nil)))) .nil)
noncomputable def qI:PS:=(.ite (.cmp .lT (.loc 3) (.const .none)) (.cons (.assign 7 (.tuple (.cons (.const (.str [116,111,108,100])) (.cons (.call .eO (.cons (.loc 3) .nil)) .nil))))
(.cons (.assign 12 (.tuple (.cons (.const (.str [116,111,108,100])) (.cons (.call .gu (.cons (.loc 3) .nil)) .nil))))
.nil)) .nil)
noncomputable def Aj:PS:=(.ite (.or (.cmp .ne (.call .bJ (.cons (.const (.int 0)) (.cons (.loc 0) (.cons (.const (.int 0)) .nil)))) (.loc 7)) (.cmp .ne (.call .bJ (.cons (.const (.int 2)) (.cons (.loc 0) (.cons (.const (.int 0)) .nil)))) (.loc 7))) (.cons (.ret (.const (.bool false)))
.nil) .nil)
noncomputable def Ak:PS:=(.ite (.or (.cmp .ne (.call .bJ (.cons (.const (.int 1)) (.cons (.loc 0) (.cons (.const (.int 0)) .nil)))) (.loc 8)) (.cmp .ne (.call .bJ (.cons (.const (.int 3)) (.cons (.loc 0) (.cons (.const (.int 10)) .nil)))) (.loc 8))) (.cons (.ret (.const (.bool false)))
.nil) .nil)
noncomputable def Al:PS:=(.ite (.cmp .ne (.call .bJ (.cons (.const (.int 3)) (.cons (.loc 0) (.cons (.const (.int 2)) .nil)))) (.loc 6)) (.cons (.ret (.const (.bool false)))
.nil) .nil)
noncomputable def Am:PS:=(.ite (.cmp .ne (.call .bJ (.cons (.const (.int 3)) (.cons (.loc 0) (.cons (.loc 1) .nil)))) (.call .ib (.cons (.loc 1) (.cons (.loc 6) (.cons (.loc 8) .nil))))) (.cons (.ret (.const (.bool false)))
.nil) .nil)
noncomputable def An:PS:=(.ite (.or (.cmp .ne (.call .bJ (.cons (.const (.int 4)) (.cons (.loc 0) (.cons (.const (.int 0)) .nil)))) (.loc 9)) (.cmp .ne (.call .bJ (.cons (.const (.int 5)) (.cons (.loc 0) (.cons (.const (.int 0)) .nil)))) (.loc 10))) (.cons (.ret (.const (.bool false)))
.nil) .nil)
noncomputable def Ao:PS:=(.ite (.or (.cmp .ne (.call .bJ (.cons (.const (.int 6)) (.cons (.loc 0) (.cons (.const (.int 0)) .nil)))) (.loc 11)) (.cmp .ne (.call .bJ (.cons (.const (.int 7)) (.cons (.loc 0) (.cons (.const (.int 0)) .nil)))) (.loc 12))) (.cons (.ret (.const (.bool false)))
.nil) .nil)
noncomputable def Ap:PS:=(.ite (.and (.cmp .eq (.idx (.loc 12) (.const (.int 0))) (.const (.str [116,111,108,100]))) (.cmp .ne (.call .bJ (.cons (.const (.int 7)) (.cons (.idx (.loc 12) (.const (.int 1))) (.cons (.const (.int 0)) .nil)))) (.loc 12))) (.cons (.ret (.const (.bool false)))
.nil) .nil)
noncomputable def Aq:PS:=(.ret (.const (.bool true)))
noncomputable def Ar:aB:=.cons Aq .nil
noncomputable def Au:aB:=.cons Ap Ar
noncomputable def Av:aB:=.cons Ao Au
noncomputable def Aw:aB:=.cons An Av
noncomputable def Ax:aB:=.cons Am Aw
noncomputable def Ay:aB:=.cons Al Ax
noncomputable def Az:aB:=.cons Ak Ay
noncomputable def qJ:aB:=.cons Aj Az
noncomputable def AA:aB:=.cons qI qJ
noncomputable def AB:aB:=.cons qH AA
noncomputable def qK:aB:=.cons qG AB
noncomputable def AD:aB:=.cons Ai qK
noncomputable def AF:aB:=.cons Ah AD
noncomputable def FL:aB:=.cons FK AF
noncomputable def FN:aB:=.cons FJ FL
noncomputable def FP:aB:=.cons FI FN
noncomputable def FQ:aB:=.cons FH FP
noncomputable def FR:aB:=.cons FG FQ
noncomputable def FT:aB:=.cons ua FR
noncomputable def FU:aB:=.cons t9 FT
noncomputable def FV:aB:=.cons FE FU
noncomputable def FW:aB:=.cons FD FV
noncomputable def u0:aB:=.cons FC FW
noncomputable def M5:a0:={ params:=2,defaults:=[],locals:=14,body:=u0 }
noncomputable def FX:PS:=(.assign 1 (.call .eO (.cons (.loc 0) .nil)))
noncomputable def F0:PS:=(.assign 2 (.call .gu (.cons (.loc 0) .nil)))
noncomputable def F1:PS:=(.ite (.cmp .ne (.call .bJ (.cons (.const (.int 8)) (.cons (.loc 1) (.cons (.const (.int 0)) .nil)))) (.tuple (.cons (.const (.str [116,111,108,100])) (.cons (.loc 2) .nil)))) (.cons (.ret (.const (.bool false)))
.nil) .nil)
noncomputable def F2:PS:=(.ite (.cmp .ne (.call .bJ (.cons (.const (.int 0)) (.cons (.loc 2) (.cons (.const (.int 0)) .nil)))) (.tuple (.cons (.const (.str [116,111,108,100])) (.cons (.loc 1) .nil)))) (.cons (.ret (.const (.bool false)))
.nil) .nil)
noncomputable def F3:PS:=(.ret (.cmp .eq (.call .mapped (.cons (.loc 1) .nil)) (.cmp .eq (.slice (.loc 0) (.const .none) (.const (.int 6))) (.list (.cons (.const (.int 0)) (.cons (.const (.int 0)) (.cons (.const (.int 0)) (.cons (.const (.int 0)) (.cons (.const (.int 0)) (.cons (.const (.int 65535)) .nil))))))))))
noncomputable def F4:aB:=.cons F3 .nil
noncomputable def F5:aB:=.cons F2 F4
noncomputable def F6:aB:=.cons F1 F5
noncomputable def F7:aB:=.cons F0 F6
noncomputable def CZ:aB:=.cons FX F7
noncomputable def M6:a0:={ params:=1,defaults:=[],locals:=3,body:=CZ }
noncomputable def lY:PS:=(.assign 3 (.bin .add (.slice (.loc 0) (.const (.int 4)) (.const .none)) (.slice (.loc 0) (.const .none) (.const (.int 4)))))
noncomputable def lZ:PS:=(.assign 4 (.slice (.call .eO (.cons (.bin .add (.loc 3) (.loc 3)) .nil)) (.const .none) (.loc 1)))
noncomputable def u3:PS:=(.assign 5 (.tuple (.cons (.const (.str [114,97,105,115,101,100])) (.cons (.const (.str [115,121,110,116,97,120])) .nil))))
noncomputable def u5:PS:=(.assign 6 (.tuple (.cons (.const (.str [114,97,105,115,101,100])) (.cons (.const (.str [118,97,108,117,101])) .nil))))
noncomputable def l0:PS:=(.ite (.cmp .eq (.loc 1) (.const (.int 4))) (.cons (.assign 5 (.tuple (.cons (.const (.str [116,111,108,100])) (.cons (.call .iO (.cons (.call .eZ (.cons (.loc 3) .nil)) .nil)) .nil))))
.nil) .nil)
noncomputable def md:PS:=(.ite (.cmp .eq (.loc 1) (.const (.int 16))) (.cons (.assign 6 (.tuple (.cons (.const (.str [116,111,108,100])) (.cons (.call .gu (.cons (.loc 3) .nil)) .nil))))
.nil) .nil)
noncomputable def u6:PS:=(.ite (.or (.cmp .ne (.call .bJ (.cons (.const (.int 8)) (.cons (.loc 4) (.cons (.const (.int 0)) .nil)))) (.loc 6)) (.cmp .ne (.call .bJ (.cons (.const (.int 9)) (.cons (.loc 4) (.cons (.const (.int 10)) .nil)))) (.loc 6))) (.cons (.ret (.const (.bool false)))
.nil) .nil)
noncomputable def u9:PS:=(.ite (.cmp .ne (.call .bJ (.cons (.const (.int 9)) (.cons (.loc 4) (.cons (.const (.int 2)) .nil)))) (.loc 5)) (.cons (.ret (.const (.bool false)))
.nil) .nil)
noncomputable def va:PS:=(.ret (.cmp .eq (.call .bJ (.cons (.const (.int 9)) (.cons (.loc 4) (.cons (.loc 2) .nil)))) (.call .ib (.cons (.loc 2) (.cons (.loc 5) (.cons (.loc 6) .nil))))))
noncomputable def vd:aB:=.cons va .nil
noncomputable def vf:aB:=.cons u9 vd
noncomputable def vg:aB:=.cons u6 vf
noncomputable def vh:aB:=.cons md vg
noncomputable def vj:aB:=.cons l0 vh
noncomputable def vk:aB:=.cons u5 vj
noncomputable def vm:aB:=.cons u3 vk
noncomputable def vn:aB:=.cons lZ vm
noncomputable def qL:aB:=.cons lY vn
noncomputable def AG:a0:={ params:=3,defaults:=[],locals:=7,body:=qL }
noncomputable def IQ:PS:=(.assign 1 (.tuple (.cons (.const (.str [116,111,108,100])) (.cons (.call .iO (.cons (.list (.cons (.const (.int 0)) (.cons (.const (.int 0)) (.cons (.const (.int 0)) (.cons (.const (.int 0)) .nil))))) .nil)) .nil))))
noncomputable def IU:PS:=(.assign 2 (.tuple (.cons (.const (.str [116,111,108,100])) (.cons (.call .gu (.cons (.list (.cons (.const (.int 0)) (.cons (.const (.int 0)) (.cons (.const (.int 0)) (.cons (.const (.int 0)) (.cons (.const (.int 0)) (.cons (.const (.int 0)) (.cons (.const (.int 0)) (.cons (.const (.int 0)) .nil))))))))) .nil)) .nil))))
noncomputable def IV:PS:=(.ite (.or (.cmp .ne (.call .bJ (.cons (.const (.int 10)) (.cons (.const .none) (.cons (.const (.int 2)) .nil)))) (.loc 1)) (.cmp .ne (.call .bJ (.cons (.const (.int 10)) (.cons (.const .none) (.cons (.const (.int 10)) .nil)))) (.loc 2))) (.cons (.ret (.const (.bool false)))
.nil) .nil)
noncomputable def IW:PS:=(.ret (.cmp .eq (.call .bJ (.cons (.const (.int 10)) (.cons (.const .none) (.cons (.loc 0) .nil)))) (.call .ib (.cons (.loc 0) (.cons (.loc 1) (.cons (.loc 2) .nil))))))
noncomputable def IX:aB:=.cons IW .nil
noncomputable def IY:aB:=.cons IV IX
noncomputable def IZ:aB:=.cons IU IY
noncomputable def I0:aB:=.cons IQ IZ
noncomputable def Q8:a0:={ params:=1,defaults:=[],locals:=3,body:=I0 }
noncomputable def oR:PS:=(.own 2 (.comp (.prim .str (.cons (.loc 5) .nil)) 5 (.val (.loc 1)) (.const (.bool true))))
noncomputable def oS:PS:=(.assign 3 (.bin .mod (.loc 0) (.const (.int 12))))
noncomputable def oU:PS:=(.assign 4 (.bin .mod (.bin .fdiv (.loc 0) (.const (.int 12))) (.const (.int 4))))
noncomputable def oV:PS:=(.ite (.cmp .eq (.loc 3) (.const (.int 1))) (.cons (.setItem 2 (.loc 4) (.bin .add (.const (.str [48])) (.idx (.loc 2) (.loc 4))))
.nil) (.cons (.ite (.cmp .eq (.loc 3) (.const (.int 2))) (.cons (.setItem 2 (.loc 4) (.prim .str (.cons (.bin .add (.idx (.loc 1) (.loc 4)) (.const (.int 256))) .nil)))
.nil) (.cons (.ite (.cmp .eq (.loc 3) (.const (.int 3))) (.cons (.setItem 2 (.loc 4) (.const (.str [])))
.nil) (.cons (.ite (.cmp .eq (.loc 3) (.const (.int 4))) (.cons (.append 2 (.const (.str [55])))
.nil) (.cons (.ite (.cmp .eq (.loc 3) (.const (.int 5))) (.cons (.own 2 (.slice (.loc 2) (.const .none) (.const (.int 3))))
.nil) (.cons (.ite (.cmp .eq (.loc 3) (.const (.int 6))) (.cons (.setItem 2 (.loc 4) (.bin .add (.const (.str [32])) (.idx (.loc 2) (.loc 4))))
.nil) (.cons (.ite (.cmp .eq (.loc 3) (.const (.int 7))) (.cons (.setItem 2 (.loc 4) (.bin .add (.idx (.loc 2) (.loc 4)) (.const (.str [97]))))
.nil) (.cons (.ite (.cmp .eq (.loc 3) (.const (.int 8))) (.cons (.setItem 2 (.loc 4) (.bin .add (.const (.str [43])) (.idx (.loc 2) (.loc 4))))
.nil) .nil)
.nil))
.nil))
.nil))
.nil))
.nil))
.nil))
.nil))
noncomputable def xC:PS:=(.ret (.aH .join (.const (.str [46])) (.cons (.loc 2) .nil)))
noncomputable def xD:aB:=.cons xC .nil
noncomputable def xE:aB:=.cons oV xD
noncomputable def xF:aB:=.cons oU xE
noncomputable def xG:aB:=.cons oS xF
noncomputable def ub:aB:=.cons oR xG
noncomputable def F8:a0:={ params:=2,defaults:=[],locals:=6,body:=ub }
noncomputable def iy:aB:=(.cons (.assign 15 (.glob cN))
(.cons (.ite (.cmp .eq (.bin .mod (.loc 8) (.const (.int 2))) (.const (.int 1))) (.cons (.assign 15 (.glob qt))
.nil) .nil)
(.cons (.append 13 (.call .iN (.cons (.loc 14) (.cons (.bin .add (.bin .mod (.bin .fdiv (.loc 8) (.const (.int 2))) (.const (.int 4))) (.const (.int 1))) (.cons (.loc 15) .nil)))))
(.cons (.assign 8 (.bin .fdiv (.loc 8) (.const (.int 8))))
.nil))))
noncomputable def vo:PS:=(.assign 3 (.bin .mod (.call .qi (.cons (.loc 0) (.cons (.loc 1) .nil))) (.const (.int 8))))
noncomputable def vp:PS:=(.assign 4 (.bin .mod (.call .qi (.cons (.loc 0) (.cons (.bin .add (.loc 1) (.const (.int 1))) .nil))) (.const (.int 9))))
noncomputable def vq:PS:=(.assign 5 (.bin .mod (.call .qi (.cons (.loc 0) (.cons (.bin .add (.loc 1) (.const (.int 2))) .nil))) (.const (.int 9))))
noncomputable def vr:PS:=(.assign 6 (.prim .min (.cons (.loc 4) (.cons (.loc 5) .nil))))
noncomputable def vt:PS:=(.assign 7 (.prim .max (.cons (.loc 4) (.cons (.loc 5) .nil))))
noncomputable def vu:PS:=(.assign 8 (.bin .mod (.call .qi (.cons (.loc 0) (.cons (.bin .add (.loc 1) (.const (.int 3))) .nil))) (.const (.int 16777216))))
noncomputable def vv:PS:=(.assign 9 (.bin .mod (.call .qi (.cons (.loc 0) (.cons (.bin .add (.loc 1) (.const (.int 4))) .nil))) (.const (.int 20))))
noncomputable def vw:PS:=(.assign 10 (.bin .mod (.call .qi (.cons (.loc 0) (.cons (.bin .add (.loc 1) (.const (.int 5))) .nil))) (.const (.int 8))))
noncomputable def vx:PS:=(.assign 11 (.bin .mod (.call .qi (.cons (.loc 0) (.cons (.bin .add (.loc 1) (.const (.int 6))) .nil))) (.const (.int 12))))
noncomputable def vy:PS:=(.assign 12 (.bin .mod (.call .qi (.cons (.loc 0) (.cons (.bin .add (.loc 1) (.const (.int 7))) .nil))) (.const (.int 96))))
noncomputable def sR:PS:=(.own 13 (.list .nil))
noncomputable def sS:PS:=(.for 14 (.val (.loc 2)) iy)
noncomputable def ku:PS:=(.ite (.cmp .eq (.loc 9) (.const (.int 1))) (.cons (.setItem 13 (.loc 10) (.call .iN (.cons (.idx (.loc 2) (.loc 10)) (.cons (.const (.int 5)) (.cons (.glob cN) .nil)))))
.nil) (.cons (.ite (.cmp .eq (.loc 9) (.const (.int 2))) (.cons (.setItem 13 (.loc 10) (.bin .add (.slice (.idx (.loc 13) (.loc 10)) (.const (.int 1)) (.const .none)) (.const (.str [103]))))
.nil) (.cons (.ite (.cmp .eq (.loc 9) (.const (.int 3))) (.cons (.setItem 13 (.loc 10) (.const (.str [])))
.nil) (.cons (.ite (.cmp .eq (.loc 9) (.const (.int 4))) (.cons (.setItem 13 (.loc 10) (.bin .add (.const (.str [32])) (.idx (.loc 13) (.loc 10))))
.nil) (.cons (.ite (.cmp .eq (.loc 9) (.const (.int 5))) (.cons (.setItem 13 (.loc 10) (.call .iO (.cons (.call .eZ (.cons (.list (.cons (.idx (.loc 2) (.loc 10)) (.cons (.idx (.loc 2) (.loc 10)) .nil))) .nil)) .nil)))
.nil) .nil)
.nil))
.nil))
.nil))
.nil))
noncomputable def kx:PS:=(.ite (.cmp .eq (.bin .mod (.loc 12) (.const (.int 2))) (.const (.int 1))) (.cons (.own 13 (.bin .add (.slice (.loc 13) (.const .none) (.const (.int 6))) (.list (.cons (.call .gb (.cons (.bin .fdiv (.loc 12) (.const (.int 2))) (.cons (.call .eZ (.cons (.slice (.loc 2) (.const (.int 6)) (.const .none)) .nil)) .nil))) .nil))))
.nil) .nil)
noncomputable def ky:PS:=(.ite (.cmp .lt (.loc 3) (.const (.int 2))) (.cons (.assign 16 (.aH .join (.const (.str [58])) (.cons (.loc 13) .nil)))
.nil) (.cons (.ite (.cmp .lt (.loc 3) (.const (.int 5))) (.cons (.assign 16 (.bin .add (.bin .add (.aH .join (.const (.str [58])) (.cons (.slice (.loc 13) (.const .none) (.loc 6)) .nil)) (.const (.str [58,58]))) (.aH .join (.const (.str [58])) (.cons (.slice (.loc 13) (.loc 7) (.const .none)) .nil))))
.nil) (.cons (.ite (.and (.cmp .eq (.loc 3) (.const (.int 5))) (.cmp .lt (.loc 4) (.loc 5))) (.cons (.assign 16 (.aH .join (.const (.str [58])) (.cons (.bin .add (.slice (.loc 13) (.const .none) (.loc 6)) (.slice (.loc 13) (.loc 7) (.const .none))) .nil)))
.nil) (.cons (.ite (.cmp .eq (.loc 3) (.const (.int 5))) (.cons (.assign 16 (.aH .join (.const (.str [58])) (.cons (.bin .add (.loc 13) (.slice (.loc 13) (.const .none) (.loc 6))) .nil)))
.nil) (.cons (.ite (.cmp .eq (.loc 3) (.const (.int 6))) (.cons (.assign 16 (.bin .add (.bin .add (.bin .add (.bin .add (.aH .join (.const (.str [58])) (.cons (.slice (.loc 13) (.const .none) (.loc 6)) .nil)) (.const (.str [58,58]))) (.aH .join (.const (.str [58])) (.cons (.slice (.loc 13) (.loc 6) (.loc 7)) .nil))) (.const (.str [58,58]))) (.aH .join (.const (.str [58])) (.cons (.slice (.loc 13) (.loc 7) (.const .none)) .nil))))
.nil) (.cons (.assign 16 (.bin .add (.bin .add (.aH .join (.const (.str [58])) (.cons (.slice (.loc 13) (.const .none) (.loc 6)) .nil)) (.const (.str [58,58,58]))) (.aH .join (.const (.str [58])) (.cons (.slice (.loc 13) (.loc 7) (.const .none)) .nil))))
.nil))
.nil))
.nil))
.nil))
.nil))
noncomputable def kz:PS:=(.ite (.cmp .eq (.loc 9) (.const (.int 6))) (.cons (.assign 16 (.bin .add (.loc 16) (.const (.str [58]))))
.nil) (.cons (.ite (.cmp .eq (.loc 9) (.const (.int 7))) (.cons (.assign 16 (.bin .add (.const (.str [58])) (.loc 16)))
.nil) .nil)
.nil))
noncomputable def kA:PS:=(.ite (.cmp .eq (.loc 11) (.const (.int 1))) (.cons (.assign 16 (.bin .add (.loc 16) (.const (.str [37]))))
.nil) (.cons (.ite (.cmp .eq (.loc 11) (.const (.int 2))) (.cons (.assign 16 (.bin .add (.loc 16) (.const (.str [37,101,116,104,48]))))
.nil) (.cons (.ite (.cmp .eq (.loc 11) (.const (.int 3))) (.cons (.assign 16 (.bin .add (.loc 16) (.const (.str [37,97,37,98]))))
.nil) (.cons (.ite (.cmp .eq (.loc 11) (.const (.int 4))) (.cons (.assign 16 (.bin .add (.loc 16) (.const (.str [37,49,58,50]))))
.nil) .nil)
.nil))
.nil))
.nil))
noncomputable def sT:PS:=(.ret (.loc 16))
noncomputable def sU:aB:=.cons sT .nil
noncomputable def sV:aB:=.cons kA sU
noncomputable def sW:aB:=.cons kz sV
noncomputable def sX:aB:=.cons ky sW
noncomputable def sY:aB:=.cons kx sX
noncomputable def sZ:aB:=.cons ku sY
noncomputable def kB:aB:=.cons sS sZ
noncomputable def s6:aB:=.cons sR kB
noncomputable def vz:aB:=.cons vy s6
noncomputable def vA:aB:=.cons vx vz
noncomputable def vB:aB:=.cons vw vA
noncomputable def vC:aB:=.cons vv vB
noncomputable def vD:aB:=.cons vu vC
noncomputable def vE:aB:=.cons vt vD
noncomputable def vF:aB:=.cons vr vE
noncomputable def vG:aB:=.cons vq vF
noncomputable def vH:aB:=.cons vp vG
noncomputable def k4:aB:=.cons vo vH
noncomputable def AH:a0:={ params:=3,defaults:=[],locals:=17,body:=k4 }
noncomputable def nG:aB:=(.cons (.assign 1 (.bin .sub (.loc 1) (.const (.int 1))))
(.cons (.assign 2 (.bin .add (.loc 2) (.idx (.glob dU) (.bin .mod (.loc 1) (.prim .len (.cons (.glob dU) .nil))))))
(.cons (.assign 1 (.bin .fdiv (.loc 1) (.prim .len (.cons (.glob dU) .nil))))
.nil)))
noncomputable def F9:PS:=(.assign 1 (.bin .mod (.loc 0) (.bin .pow (.prim .len (.cons (.glob dU) .nil)) (.const (.int 46)))))
noncomputable def Ga:PS:=(.assign 2 (.const (.str [])))
noncomputable def Gb:PS:=(.while (.and (.cmp .gt (.loc 1) (.const (.int 0))) (.cmp .lt (.prim .len (.cons (.loc 2) .nil)) (.const (.int 45)))) nG)
noncomputable def Gd:PS:=(.ret (.loc 2))
noncomputable def Gf:aB:=.cons Gd .nil
noncomputable def Gg:aB:=.cons Gb Gf
noncomputable def Gh:aB:=.cons Ga Gg
noncomputable def C0:aB:=.cons F9 Gh
noncomputable def M7:a0:={ params:=1,defaults:=[],locals:=3,body:=C0 }
noncomputable def C1:aB:=(.cons (.ite (.not (.call .ko (.cons (.loc 9) (.cons (.loc 2) .nil)))) (.cons (.ret (.const (.bool false)))
.nil) .nil)
.nil)
noncomputable def M8:PS:=(.assign 1 (.call .ia (.cons (.loc 0) .nil)))
noncomputable def M9:PS:=(.assign 2 (.bin .sub (.bin .mod (.call .qi (.cons (.loc 0) (.cons (.const (.int 31)) .nil))) (.const (.int 16))) (.const (.int 2))))
noncomputable def Nb:PS:=(.assign 3 (.bin .mod (.call .qi (.cons (.loc 0) (.cons (.const (.int 32)) .nil))) (.const (.int 24))))
noncomputable def C2:PS:=(.ite (.cmp .gt (.loc 3) (.const (.int 20))) (.cons (.assign 3 (.const (.int 4)))
.nil) .nil)
noncomputable def Nc:PS:=(.ite (.not (.call .qj (.cons (.loc 1) .nil))) (.cons (.ret (.const (.bool false)))
.nil) .nil)
noncomputable def Nf:PS:=(.ite (.or (.not (.call .fN (.cons (.loc 1) (.cons (.loc 3) (.cons (.loc 2) .nil))))) (.not (.call .zx (.cons (.loc 2) .nil)))) (.cons (.ret (.const (.bool false)))
.nil) .nil)
noncomputable def Ng:PS:=(.assign 4 (.call .eS (.cons (.loc 0) (.cons (.const (.int 9)) (.cons (.loc 1) .nil)))))
noncomputable def Nh:PS:=(.assign 5 (.call .eS (.cons (.loc 0) (.cons (.const (.int 17)) (.cons (.loc 1) .nil)))))
noncomputable def Ni:PS:=(.assign 6 (.call .ql (.cons (.call .qi (.cons (.loc 0) (.cons (.const (.int 25)) .nil))) .nil)))
noncomputable def Nj:PS:=(.assign 7 (.comp (.bin .mod (.call .qi (.cons (.loc 0) (.cons (.loc 12) .nil))) (.const (.int 256))) 12 (.sO (.const (.int 26)) (.const (.int 30)) 1) (.const (.bool true))))
noncomputable def I3:PS:=(.assign 8 (.call .gb (.cons (.bin .mod (.call .qi (.cons (.loc 0) (.cons (.const (.int 30)) .nil))) (.const (.int 48))) (.cons (.loc 7) .nil))))
noncomputable def I4:PS:=(.for 9 (.val (.list (.cons (.loc 4) (.cons (.loc 5) (.cons (.loc 6) (.cons (.loc 8) .nil)))))) C1)
noncomputable def I5:PS:=(.assign 10 (.call .gH (.cons (.loc 4) .nil)))
noncomputable def I6:PS:=(.assign 11 (.call .gH (.cons (.loc 5) .nil)))
noncomputable def xH:PS:=(.ite (.and (.cmp .lT (.loc 10) (.const .none)) (.cmp .lT (.loc 11) (.const .none))) (.cons (.ite (.cmp .ne (.cmp .eq (.call .eY (.cons (.loc 4) .nil)) (.call .eY (.cons (.loc 5) .nil))) (.cmp .eq (.loc 10) (.loc 11))) (.cons (.ret (.const (.bool false)))
.nil) .nil)
.nil) .nil)
noncomputable def I7:PS:=(.ret (.const (.bool true)))
noncomputable def I8:aB:=.cons I7 .nil
noncomputable def I9:aB:=.cons xH I8
noncomputable def Ja:aB:=.cons I6 I9
noncomputable def Jb:aB:=.cons I5 Ja
noncomputable def Jc:aB:=.cons I4 Jb
noncomputable def Jd:aB:=.cons I3 Jc
noncomputable def Nk:aB:=.cons Nj Jd
noncomputable def Nm:aB:=.cons Ni Nk
noncomputable def Nn:aB:=.cons Nh Nm
noncomputable def Np:aB:=.cons Ng Nn
noncomputable def Nq:aB:=.cons Nf Np
noncomputable def Nr:aB:=.cons Nc Nq
noncomputable def Nt:aB:=.cons C2 Nr
noncomputable def Nu:aB:=.cons Nb Nt
noncomputable def Nv:aB:=.cons M9 Nu
noncomputable def P0:aB:=.cons M8 Nv
noncomputable def Tt:a0:={ params:=1,defaults:=[],locals:=13,body:=P0 }
noncomputable def defs:Fn->a0
 | .fi=>MH
 | .eB=>MJ
 | .i6=>Iz
 | .fM=>MK
 | .qh=>ML
 | .bN=>CP
 | .mapped=>IB
 | .i7=>IC
 | .uS=>Q5
 | .uT=>Q7
 | .oN=>MN
 | .multi=>MP
 | .i9=>IH
 | .oO=>MQ
 | .eY=>II
 | .qi=>Ts
 | .ia=>EP
 | .eO=>ER
 | .iN=>MX
 | .iO=>MY
 | .eZ=>IJ
 | .gu=>IK
 | .lR=>MZ
 | .jd=>IL
 | .lS=>M0
 | .gH=>M3
 | .bJ=>M4
 | .ib=>IM
 | .ko=>M5
 | .qj=>M6
 | .fN=>AG
 | .zx=>Q8
 | .gb=>F8
 | .eS=>AH
 | .ql=>M7
 | .law=>Tt
end Mine.Internal
section
namespace Mine.Internal.P
theorem R.bP {α β:Type} (a:α) (f:α->R β):(R.ok a).bind f=f a:=rfl
theorem R.Q9 {α:Type} (a:α) (J:Ρ) (k:α->SR):(R.ok a).on J k=k a:=rfl
theorem xI (m k:Nat):Int.fdiv (m:Int) (OfNat.ofNat k)=((m / k:Nat):Int):=by
 show Int.fdiv (m:Int) (k:Int)=_
 rw[Int.fdiv_eq_ediv_of_nonneg _ (Int.natCast_nonneg k)];rfl
theorem mh (m k:Nat):Int.fmod (m:Int) (OfNat.ofNat k)=((m % k:Nat):Int):=by
 show Int.fmod (m:Int) (k:Int)=_
 rw[Int.fmod_eq_emod_of_nonneg _ (Int.natCast_nonneg k)];rfl
theorem Ra (m:Nat):Int.fmod (m:Int) 2=((m % 2:Nat):Int):=mh m 2
theorem Rb (m:Nat):Int.fmod (m:Int) 4=((m % 4:Nat):Int):=mh m 4
theorem Nw (m:Nat):Int.fdiv (m:Int) 12=((m / 12:Nat):Int):=xI m 12
theorem Nx (m:Nat):Int.fmod (m:Int) 12=((m % 12:Nat):Int):=mh m 12
theorem xJ (z:Int) (k:Nat) (hk:0<k):∃ m:Nat,Int.fmod z (k:Int)=(m:Int)/\m<k:=by
 rw[Int.fmod_eq_emod_of_nonneg _ (Int.natCast_nonneg k)]
 have h1:=Int.emod_nonneg z (show (k:Int)≠0 by lia)
 have h2:=Int.emod_lt_of_pos z (show (0:Int)<(k:Int) by lia)
 exact⟨(z % (k:Int)).toNat,by lia,by lia⟩
noncomputable abbrev vi (n:Nat):V:=.int (n:Int)
noncomputable abbrev vl (l:List Nat):List V:=l.map vi
section
variable (i aaQ:Int) (b c:Bool) (s t:List Nat) (xs ys:List V) (v w:V)
theorem Rc:tG (.bool b) (.bool c)=.ok (decide (b=c)):=rfl
theorem P1:tG (.int i) (.int aaQ)=.ok (decide (i=aaQ)):=rfl
theorem P2:tG (.str s) (.str t)=.ok (decide (s=t)):=rfl
theorem Ny:tG (.bytes s) (.bytes t)=.ok (decide (s=t)):=rfl
theorem Rd:V.eq (.list xs) (.list ys)=if xs.length=ys.length then kW xs ys else .ok false:=rfl
theorem Nz:V.eq (.tuple xs) (.tuple ys)=if xs.length=ys.length then kW xs ys else .stuck:=rfl
theorem vI:pG .eq v w=(V.eq v w).bind fun x=>.ok (.bool x):=rfl
theorem Wq:pG .ne v w=(V.eq v w).bind fun x=>.ok (.bool !x):=rfl
theorem xK:bq .encode [.str s]=R.guard (ascii s) (.ok (.bytes s)):=rfl
theorem Je:bq .decode [.bytes s]=R.guard (!s.isEmpty&&ascii s) (.ok (.str s)):=rfl
theorem Gi (k:Nat):bq .split [.str s,.str [k]]=R.guard (decide (s.length<=lim)) (.ok (.list ((ai k s).map V.str))):=rfl
theorem uc (k:Nat):bq .split [.bytes s,.bytes [k]]=R.guard (decide (s.length<=lim)) (.ok (.list ((ai k s).map V.bytes))):=rfl
end
theorem strs_map:∀ l:List (List Nat),strs? (l.map V.str)=some l:=by
 intro z0
 induction z0 with
 | nil=>exact  rfl
 | cons x r ih=>rw[List.map_cons,w7,ih];rfl
theorem AI:∀ l:List (List Nat),fq (l.map V.bytes)=some l:=by
 intro z0
 induction z0 with
 | nil=>exact  rfl
 | cons x r ih=>rw[List.map_cons,qn,ih];rfl
theorem jh (s:List Nat) (l:List (List Nat)):bq .join [.str s,.list (l.map V.str)]=R.guard (decide (bx l+s.length*l.length<=lim)) (.ok (.str (bj s l))):=by
 unfold bq;dsimp only;rw[strs_map]
theorem xM (s:List Nat) (l:List (List Nat)):bq .join [.bytes s,.list (l.map V.bytes)]=R.guard (decide (2<=l.length)&&decide (bx l+s.length*l.length<=lim)) (.ok (.bytes (bj s l))):=by
 unfold bq;dsimp only;rw[AI]
theorem et {xs:List V}{p:Nat}{v:V} (h:xs[p]?=some v):il (.list xs) (.int (p:Int))=.ok v:=by
 unfold il;dsimp only
 rw[if_pos (Int.natCast_nonneg p),Int.toNat_natCast,h]
theorem Gj {xs:List V}{p:Nat}{v:V} (h:xs[p]?=some v):il (.tuple xs) (.int (p:Int))=.ok v:=by
 unfold il;dsimp only
 rw[if_pos (Int.natCast_nonneg p),Int.toNat_natCast,h]
theorem vJ {xs:List Nat}{p:Nat}{v:Nat} (h:xs[p]?=some v):il (.str xs) (.int (p:Int))=.ok (.str [v]):=by
 unfold il;dsimp only
 rw[if_pos (Int.natCast_nonneg p),Int.toNat_natCast,h]
theorem f7 {α β:Type}{m:R α}{f:α->R β}{a:α}{r:R β} (h:m=.ok a) (k:f a=r):m.bind f=r:=by subst h;exact k
theorem xN {α:Type}{m:R α}{J:Ρ}{f:α->SR}{a:α}{z:SR} (h:m=.ok a) (k:f a=z):m.on J f=z:=by subst h;exact k
theorem XJ {α:Type}{m:R α}{J:Ρ}{f:α->SR}{x:dC} (h:m=.exc x):m.on J f=.exc x J:=by subst h;rfl
theorem Tu {m:SR}{ρ':Ρ}{f:Ρ->SR}{z:SR} (h:m=.next ρ') (k:f ρ'=z):m.then f=z:=by subst h;exact k
theorem XK {m:SR}{v:V}{f:Ρ->SR} (h:m=.ret v):m.then f=.ret v:=by subst h;rfl
theorem XM {m:SR}{x:dC}{ρ':Ρ}{f:Ρ->SR} (h:m=.exc x ρ'):m.then f=.exc x ρ':=by subst h;rfl
theorem Gk {α:Type}{c:Bool}{r z:R α} (h:c=true) (k:r=z):R.guard c r=z:=by subst h;exact k
theorem Jf:∃ l:List Int,jN=.tuple (l.map V.int)/\l.length=33:=by
 refine⟨[86063,6,0,0,4,0,0,4111,5,2,5,7,2109825,0,3,0,0,0,0,3,1042,0,2,0,1,36353,224,10,0,255,0,12,4],rfl,rfl⟩
section
variable {D:Fn->List V->R V}{J:Ρ}
theorem E.bin {op:QQ}{a b:PE}{x y:V}{r:R V} (ha:ao D a J=.ok x) (hb:ao D b J=.ok y) (h:sP op x y=r):ao D (.bin op a b) J=r:=f7 ha (f7 hb h)
theorem E.cmp {op:PY}{a b:PE}{x y:V}{r:R V} (ha:ao D a J=.ok x) (hb:ao D b J=.ok y) (h:pG op x y=r):ao D (.cmp op a b) J=r:=f7 ha (f7 hb h)
theorem E.not {a:PE}{x:V}{b:Bool} (ha:ao D a J=.ok x) (h:x.truth=.ok b):ao D (.not a) J=.ok (.bool !b):=f7 ha (f7 h rfl)
theorem E.Jg {a b:PE}{x:V}{r:R V} (ha:ao D a J=.ok x) (h:x.truth=.ok true) (hb:ao D b J=r):ao D (.and a b) J=r:=f7 ha (f7 h hb)
theorem E.Jh {a b:PE}{x:V} (ha:ao D a J=.ok x) (h:x.truth=.ok false):ao D (.and a b) J=.ok x:=f7 ha (f7 h rfl)
theorem E.Rf {a b:PE}{x:V} (ha:ao D a J=.ok x) (h:x.truth=.ok true):ao D (.or a b) J=.ok x:=f7 ha (f7 h rfl)
theorem E.NB {a b:PE}{x:V}{r:R V} (ha:ao D a J=.ok x) (h:x.truth=.ok false) (hb:ao D b J=r):ao D (.or a b) J=r:=f7 ha (f7 h hb)
theorem E.call {f:Fn}{as:fZ}{vs:List V}{r:R V} (ha:cT D as J=.ok vs) (h:D f vs=r):ao D (.call f as) J=r:=f7 ha h
theorem E.prim {p:Prim}{as:fZ}{vs:List V}{r:R V} (ha:cT D as J=.ok vs) (h:bq p vs=r):ao D (.prim p as) J=r:=f7 ha h
theorem E.aH {p:Prim}{o:PE}{as:fZ}{x:V}{vs:List V}{r:R V} (ho:ao D o J=.ok x) (ht:x.je=true) (ha:cT D as J=.ok vs) (h:bq p (x::vs)=r):ao D (.aH p o as) J=r:=f7 ho (Gk ht (f7 ha h))
theorem E.idx {a i:PE}{x y:V}{r:R V} (ha:ao D a J=.ok x) (hi:ao D i J=.ok y) (hg:(a.isName||x.je)=true) (h:il x y=r):ao D (.idx a i) J=r:=f7 ha (f7 hi (Gk hg h))
theorem E.slice {a lo hi:PE}{x l h:V}{r:R V} (ha:ao D a J=.ok x) (hl:ao D lo J=.ok l) (hh:ao D hi J=.ok h) (hg:(a.isName||x.je)=true) (e:aP x l h=r):ao D (.slice a lo hi) J=r:=f7 ha (f7 hl (f7 hh (Gk hg e)))
theorem E.one {e:PE}{v:V} (h:ao D e J=.ok v):cT D (.cons e .nil) J=.ok [v]:=f7 h rfl
theorem E.two {e f:PE}{v u:V} (h:ao D e J=.ok v) (k:ao D f J=.ok u):cT D (.cons e (.cons f .nil)) J=.ok [v,u]:=f7 h (f7 (E.one k) rfl)
theorem E.comp {elt c:PE}{k:Nat}{it:uV}{xs ys:List V} (hi:gI D it J=.ok xs) (hl:xs.length<=lim)
  (h:eT (fun x=>(ao D c (J.set k (some x))).bind fun t=>t.truth.bind fun b=>if b then (ao D elt (J.set k (some x))).bind fun y=>.ok (some y) else .ok Option.none) xs=.ok ys):ao D (.comp elt k it c) J=.ok (.list ys):=f7 hi (Gk (decide_eq_true hl) (f7 h rfl))
theorem E.map {elt:PE}{k:Nat}{it:uV}{xs:List V}{f:V->V} (hi:gI D it J=.ok xs) (hl:xs.length<=lim) (h:∀ x∈xs,ao D elt (J.set k (some x))=.ok (f x)):ao D (.comp elt k it (.const (.bool true))) J=.ok (.list (xs.map f)):=by
 refine E.comp hi hl ?_
 clear hl hi
 induction xs with
 | nil=>rfl
 | cons x r ih=>
  rw[qq,ih fun y hy=>h y (.tail _ hy)]
  show (match (ao D elt (J.set k (some x))).bind fun y=>R.ok (some y) with | .ok o=>_ | _=>_)=_
  rw[h x (.head _)];rfl
theorem S.assign {i:Nat}{e:PE}{v:V} (h:ao D e J=.ok v):bT D (.assign i e) J=.next (J.set i (some v)):=xN h rfl
theorem S.own {i:Nat}{e:PE}{l:List V} (h:ao D e J=.ok (.list l)):bT D (.own i e) J=.next (J.set i (some (.list l))):=xN h rfl
theorem S.aF {c:PE}{A B:aB}{b:Bool} (e:ao D c J=.ok (.bool b)) (h:b=true):bT D (.ite c A B) J=ak D A J:=xN e (xN (congrArg R.ok h) rfl)
theorem S.cO {c:PE}{A B:aB}{b:Bool} (e:ao D c J=.ok (.bool b)) (h:b=false):bT D (.ite c A B) J=ak D B J:=xN e (xN (congrArg R.ok h) rfl)
theorem S.Tv {c:PE}{A B:aB}{v:V} (e:ao D c J=.ok v) (h:v.truth=.ok true):bT D (.ite c A B) J=ak D A J:=xN e (xN h rfl)
theorem S.setItem {i:Nat}{aaQ e:PE}{v:V}{xs:List V}{k:Nat} (h:ao D e J=.ok v) (hi:J[i]?=some (some (.list xs))) (hj:ao D aaQ J=.ok (.int k)) (hk:k<xs.length) (hf:v.gw=true):bT D (.setItem i aaQ e) J=.next (J.set i (some (.list (xs.set k v)))):=by
 refine xN h ?_
 rw[hi]
 exact xN hj (if_pos ⟨Int.natCast_nonneg k,Int.ofNat_lt.mpr hk,hf⟩)
theorem S.append {i:Nat}{e:PE}{v:V}{xs:List V} (hi:J[i]?=some (some (.list xs))) (h:ao D e J=.ok v) (hl:xs.length<lim) (hf:v.gw=true):bT D (.append i e) J=.next (J.set i (some (.list (xs++[v])))):=by
 show (match J[i]? with | some (some (.list xs))=>(ao D e J).on J fun v=>if xs.length<lim/\v.gw=true then SR.next (J.set i (some (.list (xs++[v])))) else .stuck | _=>SR.stuck)=_
 rw[hi]
 exact xN h (if_pos ⟨hl,hf⟩)
theorem S.for {i:Nat}{it:uV}{b:aB}{xs:List V}{r:SR} (hi:gI D it J=.ok xs) (hl:xs.length<=lim) (h:dh i (ak D b) xs J=r):bT D (.for i it b) J=r:=xN hi ((if_pos hl).trans h)
theorem S.ret {e:PE}{v:V} (h:ao D e J=.ok v):bT D (.ret e) J=.ret v:=xN h rfl
theorem S.Wr {e:PE}{x:dC} (h:ao D e J=.exc x):bT D (.ret e) J=.exc x J:=XJ h
theorem S.C3 {i:Nat}{e:PE}{x:dC} (h:ao D e J=.exc x):bT D (.assign i e) J=.exc x J:=XJ h
theorem S.one {s:PS}{ρ':Ρ} (h:bT D s J=.next ρ'):ak D (.cons s .nil) J=.next ρ':=Tu h rfl
theorem S.seq {s:PS}{r:aB}{ρ':Ρ}{z:SR} (h:bT D s J=.next ρ') (k:ak D r ρ'=z):ak D (.cons s r) J=z:=Tu h k
theorem S.tail {P:SR->Prop}{s:PS}{r:aB}{ρ':Ρ} (h:bT D s J=.next ρ') (k:P (ak D r ρ')):P (ak D (.cons s r) J):=(show ak D (.cons s r) J=ak D r ρ' from Tu h rfl) ▸ k
theorem S.end {s:PS}{r:aB}{v:V} (h:bT D s J=.ret v):ak D (.cons s r) J=.ret v:=XK h
theorem S.fu {s:PS}{r:aB}{x:dC}{ρ':Ρ} (h:bT D s J=.exc x ρ'):ak D (.cons s r) J=.exc x ρ':=XM h
theorem S.val {p:aB}{v:V} (h:ak D p J=.ret v):(ak D p J).value=.ok v:=congrArg SR.value h
theorem S.k6 {p:aB}{x:dC}{ρ':Ρ} (h:ak D p J=.exc x ρ'):(ak D p J).value=.exc x:=congrArg SR.value h
theorem S.last {s:PS}:ak D (.cons s .nil) J=bT D s J:=by show (bT D s J).then (ak D .nil)=_;cases bT D s J<;>rfl
theorem S.qM {P:SR->Prop}{c:PE}{A B:aB}{p:Prop} [Decidable p] (e:ao D c J=.ok (.bool (decide p))) (hA:p->P (ak D A J)) (hB:¬ p->P (ak D B J)):P (bT D (.ite c A B) J):=by
 by_cases h:p
 ·rw[S.aF e (decide_eq_true h)];exact hA h
 ·rw[S.cO e (decide_eq_false h)];exact hB h
theorem S.bZ {P:SR->Prop}{i:Nat}{aaQ:Int}{k:Nat}{A B:aB} (hi:ao D (.loc i) J=.ok (.int k)) (hA:P (ak D A J)) (hB:P (ak D B J)):P (bT D (.ite (.cmp .eq (.loc i) (.const (.int aaQ))) A B) J):=
 S.qM (p:=(k:Int)=aaQ) (E.cmp hi rfl rfl) (fun O=>hA) fun O=>hB
theorem S.elif {P:SR->Prop}{s:PS} (h:P (bT D s J)):P (ak D (.cons s .nil) J):=S.last ▸ h
theorem NC {i:Nat}{v:V} (h:ao D (.loc i) J=.ok v):J[i]?=some (some v):=by
 revert h
 show (match J[i]? with | some (some v)=>R.ok v | _=>.stuck)=_->_
 cases J[i]? with
 | none=>intro h;contradiction
 | some o=>
  cases o with
  | none=>intro h;contradiction
  | some w=>intro h;injection h with h;rw[h]
theorem S.Ji {a i:Nat}{aaQ e:PE}{u:List Nat}{W:List (List Nat)} (h:ao D e J=.ok (.str u)) (ha:ao D (.loc a) J=.ok (.list (W.map V.str))) (hj:ao D aaQ J=.ok (.int i)) (hi:i<W.length):ak D (.cons (.setItem a aaQ e) .nil) J=.next (J.set a (some (.list ((W.set i u).map V.str)))):=by
 rw[S.last,S.setItem h (NC ha) hj (by rw[List.length_map];exact hi) rfl,List.map_set]
theorem F.cons {i:Nat}{b:aB}{x:V}{r:List V}{ρ':Ρ}{z:SR} (h:ak D b (J.set i (some x))=.next ρ') (k:dh i (ak D b) r ρ'=z):dh i (ak D b) (x::r) J=z:=Tu h k
theorem F.stop {i:Nat}{b:aB}{x:V}{r:List V}{v:V} (h:ak D b (J.set i (some x))=.ret v):dh i (ak D b) (x::r) J=.ret v:=XK h
theorem F.P4 {i:Nat}{b:aB}{x:V}{r:List V}{e:dC}{ρ':Ρ} (h:ak D b (J.set i (some x))=.exc e ρ'):dh i (ak D b) (x::r) J=.exc e ρ':=XM h
theorem W.turn {c:PE}{b:aB}{n:Nat}{ρ':Ρ}{z:SR} (hc:(ao D c J).bind V.truth=.ok true) (h:ak D b J=.next ρ') (k:dp (fun J=>(ao D c J).bind V.truth) (ak D b) n ρ'=z):dp (fun J=>(ao D c J).bind V.truth) (ak D b) (n+1) J=z:=xN hc (Tu h k)
theorem W.stop {c:PE}{b:aB}{n:Nat} (hc:(ao D c J).bind V.truth=.ok false):dp (fun J=>(ao D c J).bind V.truth) (ak D b) (n+1) J=.next J:=xN hc rfl
end
theorem e7 (a b:Nat):decide ((a:Int)=(b:Int))=decide (a=b):=decide_eq_decide.mpr Int.ofNat_inj
theorem fP (a b:Nat):decide ((a:Int)<(b:Int))=decide (a<b):=decide_eq_decide.mpr Int.ofNat_lt
theorem Tz (a b:Nat):decide ((a:Int)<=(b:Int))=decide (a<=b):=decide_eq_decide.mpr Int.ofNat_le
theorem e8 {α:Type}{c:Prop} [Decidable c] {r s:R α} (h:c) (k:r=s):R.guard (decide c) r=s:=Gk (decide_eq_true h) k
theorem adds {s t:List Nat} (h:s.length+t.length<=1000000):sP .add (.str s) (.str t)=.ok (.str (s++t)):=e8 (show _<=lim from h) rfl
theorem qN {a b:Int} (h:a=b):(R.ok (V.int a))=.ok (.int b):=h ▸ rfl
theorem C.ok {D:Fn->List V->R V}{J:Ρ}{c:PE}{b:Bool} (h:ao D c J=.ok (.bool b)):(ao D c J).bind V.truth=.ok b:=f7 h rfl
theorem C.and {D:Fn->List V->R V}{J:Ρ}{a b:PE}{x y:Bool} (h:ao D a J=.ok (.bool x)) (k:ao D b J=.ok (.bool y)):ao D (.and a b) J=.ok (.bool (x&&y)):=by
 cases x with
 | true=>exact E.Jg h rfl k
 | false=>exact E.Jh h rfl
theorem C.or {D:Fn->List V->R V}{J:Ρ}{a b:PE}{x y:Bool} (h:ao D a J=.ok (.bool x)) (k:ao D b J=.ok (.bool y)):ao D (.or a b) J=.ok (.bool (x||y)):=by
 cases x with
 | true=>exact E.Rf h rfl
 | false=>exact E.NB h rfl k
theorem b5 {a b:Bool} (h:a=b):(R.ok (V.bool a))=.ok (.bool b):=h ▸ rfl
theorem E.iR {D:Fn->List V->R V}{J:Ρ}{a:PE}{m:Nat} (K:Nat) (h:ao D a J=.ok (vi m)) (hK:(0<K/\K<1000000000):=by decide):ao D (.bin .fdiv a (.const (.int (K:Int)))) J=.ok (vi (m / K)):=
 E.bin h rfl (by
  show R.guard (decide ((0:Int)<(K:Int))&&decide ((K:Int)<1000000000)) _=_
  rw[decide_eq_true (show (0:Int)<(K:Int) from Int.ofNat_lt.mpr hK.1),decide_eq_true (show (K:Int)<1000000000 from Int.ofNat_lt.mpr hK.2)]
  exact qN (by rw[Int.fdiv_eq_ediv_of_nonneg _ (Int.natCast_nonneg K)];rfl))
theorem E.s7 {D:Fn->List V->R V}{J:Ρ}{a:PE}{m:Nat} (K:Nat) (h:ao D a J=.ok (vi m)) (hK:0<K:=by decide):ao D (.bin .mod a (.const (.int (K:Int)))) J=.ok (vi (m % K)):=
 E.bin h rfl (e8 (c:=(0:Int)<(K:Int)) (Int.ofNat_lt.mpr hK) (qN (by rw[Int.fmod_eq_emod_of_nonneg _ (Int.natCast_nonneg K)];rfl)))
theorem E.lst {D:Fn->List V->R V}{J:Ρ}{es:fZ}{vs:List V} (h:cT D es J=.ok vs):ao D (.list es) J=.ok (.list vs):=f7 h rfl
theorem E.tup {D:Fn->List V->R V}{J:Ρ}{es:fZ}{vs:List V} (h:cT D es J=.ok vs):ao D (.tuple es) J=.ok (.tuple vs):=f7 h rfl
theorem E.loc {D:Fn->List V->R V}{J:Ρ}{i:Nat}{v:V}{o:Option V} (h:o=some v) (q:J[i]?=some o:=by rfl):ao D (.loc i) J=.ok v:=by
 show (match J[i]? with | some (some v)=>R.ok v | _=>.stuck)=_
 rw[q,h]
theorem S.skip {D:Fn->List V->R V}{J:Ρ}{c:PE}{A:aB} (h:ao D c J=.ok (.bool false)):bT D (.ite c A .nil) J=.next J:=(S.cO h rfl).trans rfl
noncomputable def sq (N:Nat) (A:List V):Ρ:=A.map some++List.replicate (N - A.length) none
theorem ND {α:Type} (y z:α):∀ (A B:List α),(A++y::B).set A.length z=A++z::B:=by
 intro z0
 induction z0 with
 | nil=>exact fun B=>rfl
 | cons a A ih=>exact fun B=>by rw[List.cons_append,List.length_cons,List.set_cons_succ,ih B];rfl
theorem S.push {D:Fn->List V->R V}{N:Nat}{A:List V}{i:Nat}{e:PE}{v:V} (h:ao D e (sq N A)=.ok v) (hi:i=A.length:=by rfl) (hN:Nat.ble (A.length+1) N=true:=by rfl):bT D (.assign i e) (sq N A)=.next (sq N (A++[v])):=by
 rw[S.assign h,hi]
 unfold sq
 have e1:N - A.length=(N - (A++[v]).length)+1:=by have:=Nat.le_of_ble_eq_true hN;rw[List.length_append,List.length_singleton];lia
 rw[e1,List.replicate_succ,show A.length=(A.map some).length from (List.length_map _).symm,ND,List.map_append,List.append_assoc]
 rfl
theorem E.s8 {D:Fn->List V->R V}{J:Ρ}{e:PE}{l:List Nat} (h:ao D e J=.ok (.list (vl l))):ao D (.prim .len (.cons e .nil)) J=.ok (vi l.length):=E.prim (E.one h) (qN (by rw[List.length_map]))
theorem E.Jj {D:Fn->List V->R V}{J:Ρ}{e:PE}{f:List Nat->V}{l:List (List Nat)} (h:ao D e J=.ok (.list (l.map f))):ao D (.prim .len (.cons e .nil)) J=.ok (vi l.length):=E.prim (E.one h) (qN (by rw[List.length_map]))
theorem E.sel {D:Fn->List V->R V}{J:Ρ}{elt c:PE}{k:Nat}{it:uV}{xs:List V}{f:V->Bool} (hi:gI D it J=.ok xs) (hl:xs.length<=lim) (h:∀ x∈xs,ao D c (J.set k (some x))=.ok (.bool (f x))/\ao D elt (J.set k (some x))=.ok x):ao D (.comp elt k it c) J=.ok (.list (xs.filter f)):=by
 refine E.comp hi hl ?_
 clear hl hi
 induction xs with
 | nil=>rfl
 | cons x r ih=>
  refine aC (h x (.head _)) fun h1 h2=>?_
  rw[qq,ih fun y hy=>h y (.tail _ hy),h1,List.filter_cons]
  cases f x with
  | true=>show (match (ao D elt (J.set k (some x))).bind fun y=>R.ok (some y) with | .ok o=>_ | _=>_)=_;rw[h2];rfl
  | false=>rfl
theorem S.Gm {D:Fn->List V->R V}{J:Ρ}{α:Type}{f:α->V}{i:Nat}{v:α}{l:List α}{e:PE} (h1:J[i]?=some (some (.list (l.map f)))) (h:ao D e J=.ok (f v)) (hl:l.length<1000000) (hf:(f v).gw=true:=by rfl):bT D (.append i e) J=.next (J.set i (some (.list ((l++[v]).map f)))):=by
 rw[S.append h1 h (by rw[List.length_map];exact hl) hf,<- List.map_singleton (f:=f),<- List.map_append]
theorem S.TB {D:Fn->List V->R V}{J:Ρ}{i k:Nat}{s:List Nat}{e:PE} (h1:J[i]?=some (some (.cj s))) (h:ao D e J=.ok (vi k)) (hk:k<256) (hl:s.length<1000000):bT D (.push i e) J=.next (J.set i (some (.cj (s++[k])))):=by
 show (match J[i]? with | some (some (.cj s))=>((ao D e J).on J fun v=>match v with | .int k=>if 0<=k/\k<256/\s.length<lim then SR.next (J.set i (some (.cj (s++[k.toNat])))) else .stuck | _=>.stuck) | _=>SR.stuck)=_
 rw[h1]
 exact xN h (if_pos ⟨Int.natCast_nonneg k,Int.ofNat_lt.mpr hk,hl⟩)
theorem E.more {D:Fn->List V->R V}{J:Ρ}{e:PE}{r:fZ}{v:V}{vs:List V} (h:ao D e J=.ok v) (k:cT D r J=.ok vs):cT D (.cons e r) J=.ok (v::vs):=f7 h (f7 k rfl)
theorem P5 {n:Nat} (xs:List Int) (p:Nat) (hp:p<33):∃ z,ae defs (n+1) .qi [.list (xs.map V.int),.int p]=.ok (.int z):=by
 show ∃ z,(ak (ae defs n) PZ [some (.list (xs.map V.int)),some (.int p)]).value=.ok (.int z)
 by_cases h:p<xs.length
 ·exact⟨_,S.val (S.end ((S.aF (E.cmp rfl rfl rfl) (decide_eq_true (show (p:Int)<((xs.map V.int).length:Int) by rw[List.length_map];exact Int.ofNat_lt.mpr h))).trans (S.end (S.ret (E.idx rfl rfl rfl (et (v:=.int xs[p]) (by rw[List.getElem?_map,List.getElem?_eq_getElem h];rfl)))))))⟩
 ·have h2:¬ (p:Int)<((xs.map V.int).length:Int):=by rw[List.length_map];exact fun q=>h (Int.ofNat_lt.mp q)
  obtain⟨l,hl,XO⟩:=Jf
  have hz:il jN (.int p)=.ok (.int (l[p]'(XO ▸ hp))):=by
   rw[hl];exact Gj (by rw[List.getElem?_map,List.getElem?_eq_getElem (XO ▸ hp)];rfl)
  exact⟨_,S.val (S.seq (S.skip (E.cmp rfl rfl (b5 (decide_eq_false h2)))) (S.end (S.ret (E.idx rfl rfl rfl hz))))⟩
theorem qO {D:Fn->List V->R V}{J:Ρ}{e:PE}{k:PX}{r:CJ}{v:V}{s u:List Nat} (h:ao D e J=.ok v) (hf:sQ k v=.ok s) (hl:s.length<=100000) (hr:gJ D r J=.ok u):gJ D (.cons e k r) J=.ok (s++u):=
 f7 h (f7 hf (Gk (decide_eq_true hl) (f7 hr rfl)))
theorem S.C4 {D:Fn->List V->R V}{J:Ρ}{b:aB}{hs:Ip}{v:V} (h:ak D b J=.ret v):bT D (.try b hs) J=.ret v:=by
 show (match ak D b J with | .exc x ρ'=>Iq D hs x ρ' | r=>r)=_
 rw[h]
theorem S.Jk {D:Fn->List V->R V}{J ρ':Ρ}{b:aB}{hs:Ip} (h:ak D b J=.next ρ'):bT D (.try b hs) J=.next ρ':=by
 show (match ak D b J with | .exc x ρ'=>Iq D hs x ρ' | r=>r)=_
 rw[h]
theorem S.C5 {D:Fn->List V->R V}{J ρ':Ρ}{b:aB}{hs:Ip}{x:dC}{z:SR} (h:ak D b J=.exc x ρ') (k:Iq D hs x ρ'=z):bT D (.try b hs) J=z:=by
 show (match ak D b J with | .exc x ρ'=>Iq D hs x ρ' | r=>r)=_
 rw[h];exact k
theorem TC {b:Bool} (h:(!b)=true):b=false:=by cases b;rfl;contradiction
theorem TF {b:Bool} (h:(!b)=false):b=true:=by cases b;contradiction;rfl
theorem E.neN {D:Fn->List V->R V}{J:Ρ}{a b:PE}{x y:Nat} (h:ao D a J=.ok (vi x)) (k:ao D b J=.ok (vi y)):ao D (.cmp .ne a b) J=.ok (.bool !decide (x=y)):=E.cmp h k (b5 (congrArg (!·) (e7 x y)))
theorem F.scan {D:Fn->List V->R V}{i:Nat}{b:aB}{α:Type}{f:α->V}{C:Option V->Ρ}{ok:α->Bool}{Z:SR->Prop} (hF:∀ o x,(C o).set i (some x)=C (some x)) (hZ:∀ s k,Z s->s.then k=s)
  (hb:∀ x,ok x=true->ak D b (C (some (f x)))=.next (C (some (f x)))) (hz:∀ x,ok x=false->Z (ak D b (C (some (f x))))) :
  ∀ (ps:List α) (o:Option V),(ps.all ok=true/\∃ o',dh i (ak D b) (ps.map f) (C o)=.next (C o'))∨(ps.all ok=false/\Z (dh i (ak D b) (ps.map f) (C o))):=by
 intro ps
 induction ps with
 | nil=>exact fun o=>.inl ⟨rfl,o,rfl⟩
 | cons x r ih=>
  intro o
  rw[List.all_cons]
  cases h:ok x with
  | true=>
   have e:dh i (ak D b) ((x::r).map f) (C o)=dh i (ak D b) (r.map f) (C (some (f x))):=F.cons (by rw[hF];exact hb x h) rfl
   rw[e];exact ih _
  | false=>
   refine .inr ⟨rfl,?_⟩
   show Z ((ak D b ((C o).set i (some (f x)))).then _)
   rw[hF,hZ _ _ (hz x h)];exact hz x h
noncomputable def aK:List Nat->List Nat
 | []=>[]
 | x::r=>x / 256::x % 256::aK r
theorem p6:aK []=([]):=rfl
theorem iz:aK (x::r)=(x / 256::x % 256::aK r):=rfl
theorem gd:∀ g:List Nat,(aK g).length=2*g.length:=by
 intro z0
 induction z0 with
 | nil=>
  exact  rfl
 | cons x r ih=>
  simp[p6,iz,ih];lia
theorem oW:∀ a b:List Nat,aK (a++b)=aK a++aK b:=by
 intro z0
 induction z0 with
 | nil=>
  exact fun b=>rfl
 | cons x r ih=>
  intro b
  simp[p6,iz,ih b]
theorem cX:∀ g:List Nat,(∀ x∈g,x<65536)->∀ y∈aK g,y<256:=by
 intro z0
 induction z0 with
 | nil=>
  intro _ y h
  contradiction
 | cons x r ih=>
  intro hg y h
  have hx:=hg x (.head _)
  simp only[iz,List.mem_cons] at h
  rcases h with rfl | rfl | h
  ·lia
  ·lia
  ·exact ih (fun z hz=>hg z (.tail _ hz)) y h
theorem AJ {D:Fn->List V->R V}{G:Option V}:∀ (gs acc:List Nat) (o:Option V),acc.length+2*gs.length<=1000->
  ∃ o',dh 2 (ak D oQ) (vl gs) [G,some (.list (vl acc)),o]=.next [G,some (.list (vl (acc++aK gs))),o']:=by
 intro z0
 induction z0 with
 | nil=>
  intro acc o _
  exact⟨o,by rw[show acc++aK []=acc from List.append_nil _];rfl⟩
 | cons x r ih=>
  intro acc o h
  rw[List.length_cons] at h
  have h2:((acc++[x / 256])++[x % 256]).length=acc.length+2:=by rw[List.length_append,List.length_append];rfl
  refine Exists.elim (ih ((acc++[x / 256])++[x % 256]) (some (vi x)) (by rw[h2];lia)) fun o' e=>?_
  rw[show acc++[x / 256]++[x % 256]++aK r=acc++aK (x::r) by rw[List.append_assoc,List.append_assoc];rfl] at e
  have hl:acc.length+1<1000000:=Nat.lt_of_le_of_lt (show _<=1000 by lia) (by decide)
  exact⟨o',F.cons (S.seq (S.Gm (f:=vi) rfl (E.iR 256 rfl) (Nat.lt_of_succ_lt hl)) (S.one (S.Gm (f:=vi) rfl (E.s7 256 rfl) (by rw[List.length_append];exact hl)))) e⟩
theorem C6:∀ l:List Nat,eE (vl l)=some (l.map fun n:Nat=>(n:Int)):=by
 intro z0
 induction z0 with
 | nil=>
  exact  rfl
 | cons x r ih=>
  show eE (V.int x::vl r)=_
  rw[qo,ih];rfl
theorem qP {l:List Nat} (h:∀ x∈l,x<256):bq .bytes [.list (vl l)]=.ok (.bytes l):=by
 unfold bq
 dsimp only
 rw[C6]
 dsimp only
 have h1:((l.map fun n:Nat=>(n:Int)).all fun i=>decide (0<=i)&&decide (i<256))=true:=by
  rw[List.all_eq_true]
  intro i hi
  refine Exists.elim (List.mem_map.mp hi) fun x zz=>aC zz fun hx aw=>?_;clear zz;subst aw
  have:=h x hx
  simp;lia
 rw[if_pos h1,List.map_map]
 congr 2
 exact List.map_id'' (fun x=>rfl) l
theorem mi {n:Nat} (gs:List Nat) (hl:gs.length<=100) (hg:∀ x∈gs,x<65536):ae defs (n+1) .eO [.list (vl gs)]=.ok (.bytes (aK gs)):=by
 show (ak (ae defs n) tW [some (.list (vl gs)),none,none]).value=_
 refine Exists.elim (AJ (D:=ae defs n) (G:=some (.list (vl gs))) gs [] none (by rw[List.length_nil];lia)) fun o' e=>?_
 exact S.val (S.seq rfl (S.seq (S.for rfl (by rw[List.length_map];exact Nat.le_trans hl (by decide)) e) (S.end (S.ret (E.prim (E.one rfl) (qP (cX gs hg)))))))
noncomputable def dy (sg:List Nat) (w:Nat):Nat->Nat->List Nat->List Nat
 | 0,_,acc=>acc
 | k+1,n,acc=>if 0<n∨acc.length<w then dy sg w k (n / 16) (sg.getD (n % 16) 0::acc) else acc
theorem dN {sg:List Nat}{w:Nat}:dy sg w (k+1) n acc=(if 0<n∨acc.length<w then dy sg w k (n / 16) (sg.getD (n % 16) 0::acc) else acc):=rfl
theorem nH {D:Fn->List V->R V}{sg acc:List Nat}{n w:Nat}:ao D (.or (.cmp .gt (.loc 0) (.const (.int 0))) (.cmp .lt (.prim .len (.cons (.loc 3) .nil)) (.loc 1))) [some (vi n),some (vi w),some (.str sg),some (.str acc)]=.ok (.bool (decide (0<n∨acc.length<w))):=
 (C.or (E.cmp (op:=.gt) (x:=vi n) (y:=vi 0) rfl rfl (b5 (fP 0 n))) (E.cmp (op:=.lt) (x:=vi acc.length) (y:=vi w) rfl rfl (b5 (fP _ _)))).trans (b5 (Bool.decide_or ..).symm)
theorem AK {D:Fn->List V->R V}{sg:List Nat}{w:Nat} (VW:16<=sg.length):∀ (k f n:Nat) (acc:List Nat),n<16 ^ k->w<=acc.length+k->acc.length+k<=100->
  ∃ n',dp (fun J=>(ao D (.or (.cmp .gt (.loc 0) (.const (.int 0))) (.cmp .lt (.prim .len (.cons (.loc 3) .nil)) (.loc 1))) J).bind V.truth) (ak D nF) (f+k+1) [some (vi n),some (vi w),some (.str sg),some (.str acc)] =
   .next [some n',some (vi w),some (.str sg),some (.str (dy sg w k n acc))]:=by
 intro z0
 induction z0 with
 | zero=>
  exact fun f n acc hn hw hl=>⟨vi n,W.stop (C.ok (nH.trans (b5 (decide_eq_false fun q=>q.elim (Nat.not_lt.mpr (Nat.le_of_lt_succ hn)) (Nat.not_lt.mpr hw)))))⟩
 | succ k ih=>
  intro f n acc hn hw hl
  by_cases hc:0<n∨acc.length<w
  ·have hV:n % 16<sg.length:=Nat.lt_of_lt_of_le (Nat.mod_lt n (by decide)) VW
   have hi:sg[n % 16]?=some (sg.getD (n % 16) 0):=by rw[List.getElem?_eq_getElem hV,List.getD_eq_getElem?_getD,List.getElem?_eq_getElem hV];rfl
   have NF:(sg.getD (n % 16) 0::acc).length+k=acc.length+(k+1):=by rw[List.length_cons,Nat.succ_add];rfl
   obtain⟨n',e⟩:=ih f (n / 16) (sg.getD (n % 16) 0::acc) (Nat.div_lt_of_lt_mul (by rw[Nat.mul_comm,<- Nat.pow_succ];exact hn)) (by rw[NF];exact hw) (by rw[NF];exact hl)
   have hb:ak D nF [some (vi n),some (vi w),some (.str sg),some (.str acc)]=.next [some (vi (n / 16)),some (vi w),some (.str sg),some (.str (sg.getD (n % 16) 0::acc))]:=
    S.seq (S.assign (v:=.str (sg.getD (n % 16) 0::acc)) (E.bin (x:=.str [sg.getD (n % 16) 0]) (y:=.str acc) (E.idx (x:=.str sg) (y:=vi (n % 16)) rfl (E.s7 16 rfl) rfl (vJ hi)) rfl (adds (by
     rw[Nat.add_comm];exact Nat.le_trans (Nat.add_le_add_left (Nat.le_add_left 1 k) _) (Nat.le_trans hl (by decide)))))) (S.one (S.assign (E.iR 16 rfl)))
   exact⟨n',(W.turn (C.ok (nH.trans (b5 (decide_eq_true hc)))) hb e).trans (by rw[dN,if_pos hc])⟩
  ·exact⟨vi n,(W.stop (C.ok (nH.trans (b5 (decide_eq_false hc))))).trans (by rw[dN,if_neg hc])⟩
theorem AO {m:Nat}{sg:List Nat} (n w k:Nat) (VW:16<=sg.length) (hn:n<16 ^ k) (hw:w<=k) (hk:k<=90):ae defs (m+1) .iN [vi n,vi w,.str sg]=.ok (.str (dy sg w k n [])):=by
 show (ak (ae defs m) CW [some (vi n),some (vi w),some (.str sg),none]).value=_
 refine Exists.elim (AK (D:=ae defs m) (w:=w) VW k (100000 - k - 1) n [] hn (by rw[List.length_nil,Nat.zero_add];exact hw) (by rw[List.length_nil];lia)) fun n' e=>?_
 rw[show 100000 - k - 1+k+1=turns from by show _=100000;lia] at e
 exact S.val (S.seq rfl (S.seq e (S.end (S.ret rfl))))
theorem Gn {sg:List Nat}{w:Nat}:∀ (k n:Nat) (acc:List Nat),(dy sg w k n acc).length<=acc.length+k:=by
 intro z0
 induction z0 with
 | zero=>
  intro n acc
  exact Nat.le_refl _
 | succ k ih=>
  intro n acc
  rw[dN]
  split
  ·have:=ih (n / 16) (sg.getD (n % 16) 0::acc);rw[List.length_cons] at this;lia
  ·lia
theorem ud {sg:List Nat}{w:Nat} (VW:16<=sg.length):∀ (k n:Nat) (acc:List Nat) (c:Nat),c∈dy sg w k n acc->c∈acc∨c∈sg.take 16:=by
 intro z0
 induction z0 with
 | zero=>
  intro n acc c h
  exact .inl h
 | succ k ih=>
  intro n acc c h
  rw[dN] at h
  split at h
  ·rcases ih (n / 16) _ c h with h | h
   ·rcases List.mem_cons.mp h with h | h
    ·right
     rw[h,List.getD_eq_getElem?_getD,List.getElem?_eq_getElem (by lia),Option.getD_some]
     exact List.mem_take_iff_getElem.mpr ⟨n % 16,by lia,rfl⟩
    ·exact .inl h
   ·exact .inr h
  ·exact .inl h
noncomputable def bQ (l:List Nat):List Nat:=bj [46] (l.map fun n:Nat=>bI n)
theorem ji {n:Nat} (h:n<1000):(bI n).length<=3:=by
 have:∀ n:Fin 1000,(bI ((n.1:Nat):Int)).length<=3:=by decide +kernel
 exact this ⟨n,h⟩
theorem gN {n:Nat} (h:n<2 ^ 200):((n:Int).natAbs.log2<1920):=by
 rw[Int.natAbs_natCast]
 by_cases h0:n=0
 ·subst h0;decide
 ·exact Nat.lt_of_lt_of_le ((Nat.log2_lt h0).mpr h) (by decide)
theorem NH:∀ l:List Nat,(∀ x∈l,x<1000)->bx (l.map fun n:Nat=>bI n)<=3*l.length:=by
 intro l
 induction l with
 | nil=>exact fun O=>Nat.le_refl _
 | cons x r ih=>exact fun h=>Nat.le_trans (Nat.add_le_add (ji (h x (.head _))) (ih fun y hy=>h y (.tail _ hy))) (by rw[List.length_cons,Nat.mul_succ,Nat.add_comm];exact Nat.le_refl _)
theorem vK {n:Nat} (l:List Nat) (hl:l.length<=100) (h:∀ x∈l,x<1000):ae defs (n+1) .iO [.list (vl l)]=.ok (.str (bQ l)):=by
 show (ak (ae defs n) CX [some (.list (vl l)),none]).value=_
 have hj:=jh [46] (l.map fun n:Nat=>bI n)
 rw[decide_eq_true (Nat.le_trans (Nat.add_le_add (NH l h) (Nat.le_of_eq (by rw[List.length_map];rfl))) (Nat.le_trans (show 3*l.length+1*l.length<=400 by lia) (by decide)))] at hj
 have hm:(vl l).map (fun x=>match x with | .int i=>.str (bI i) | _=>.none)=(l.map fun n:Nat=>bI n).map V.str:=by rw[List.map_map,List.map_map];rfl
 refine S.val (S.end (S.ret (E.aH rfl rfl (E.one (E.map (f:=fun x=>match x with | .int i=>.str (bI i) | _=>.none) rfl (by rw[List.length_map];exact Nat.le_trans hl (by decide)) fun x hx=>?_)) (hm ▸ hj))))
 refine Exists.elim (List.mem_map.mp hx) fun y zz=>aC zz fun hy aw=>?_;clear zz;subst aw
 exact E.prim (E.one rfl) (e8 (gN (Nat.lt_trans (h y hy) (by decide))) rfl)
theorem vL {n:Nat} (a b:Nat):ae defs (n+1) .eZ [.list (vl [a,b])]=.ok (.list (vl (aK [a,b]))):=by
 show (ak (ae defs n) qD [some (.list (vl [a,b]))]).value=_
 have i0:∀ {D:Fn->List V->R V},ao D (.idx (.loc 0) (.const (.int 0))) [some (.list (vl [a,b]))]=.ok (vi a):=rfl
 have i1:∀ {D:Fn->List V->R V},ao D (.idx (.loc 0) (.const (.int 1))) [some (.list (vl [a,b]))]=.ok (vi b):=rfl
 exact S.val (S.end (S.ret (E.lst (E.more (E.iR 256 i0) (E.more (E.s7 256 i0) (E.more (E.iR 256 i1) (E.one (E.s7 256 i1))))))))
noncomputable def dW (c:Nat):Int:=findAt [c] [48,49,50,51,52,53,54,55,56,57,97,98,99,100,101,102,65,66,67,68,69,70] 0
theorem xO {c:Nat} (h:c<128):(aO c=true/\dW c=((c - 48:Nat):Int)/\c - 48<=9)∨(aO c=false/\(dW c<0∨9<dW c)):=by
 have:∀ c:Fin 128,(aO c.1=true/\dW c.1=((c.1 - 48:Nat):Int)/\c.1 - 48<=9)∨(aO c.1=false/\(dW c.1<0∨9<dW c.1)):=by decide +kernel
 exact this ⟨c,h⟩
noncomputable def gg:List Nat->List Nat->List Nat->Nat->Option (List Nat)
 | [],nums,_,_=>some nums
 | c::r,nums,ds,v=>if c=46 then (if bI v=ds/\v<=255 then gg r (nums++[v]) [] 0 else none)
  else if aO c=true then gg r nums (ds++[c]) (v*10+(c - 48)) else none
theorem Jl:gg [] nums u1 u2=(some nums):=rfl
theorem qQ:gg (c::r) nums ds v=(if c=46 then (if bI v=ds/\v<=255 then gg r (nums++[v]) [] 0 else none)
  else if aO c=true then gg r nums (ds++[c]) (v*10+(c - 48)) else none):=rfl
theorem NJ {v k:Nat} (h:v<10 ^ k) (hk:k<=560):(v:Int).natAbs.log2<1920:=by
 rw[Int.natAbs_natCast]
 by_cases h0:v=0
 ·subst h0;decide
 ·exact (Nat.log2_lt h0).mpr (Nat.lt_of_lt_of_le h (Nat.le_trans (Nat.pow_le_pow_right (by decide) hk) (by decide)))
theorem Gp {v k:Nat} (h:v<10 ^ k) (hk:k<=2000):(v:Int).natAbs<pF:=by
 rw[Int.natAbs_natCast]
 exact Nat.lt_of_lt_of_le h (Nat.pow_le_pow_right (by decide) (Nat.le_trans hk (by decide)))
theorem C7 {v k:Nat} (h:v<16 ^ k) (hk:k<=2000):(v:Int).natAbs<pF:=by
 rw[Int.natAbs_natCast]
 refine Nat.lt_of_lt_of_le h (Nat.le_trans (Nat.pow_le_pow_left (show 16<=10 ^ 2 by decide) k) ?_)
 rw[<- Nat.pow_mul]
 exact Nat.pow_le_pow_right (by decide) (by lia)
theorem NK:(10:Int).natAbs<pF:=by
 have:=C7 (v:=10) (k:=1) (by decide) (by decide)
 exact this
theorem NM (c d:Nat):decide (([c]:List Nat)=[d])=decide (c=d):=by simp
theorem TG {v k:Nat} (hv:v<10 ^ k) (hk:k<=2000):sP .mul (vi v) (vi 10)=.ok (vi (v*10)):=by
 show R.guard (decide ((v:Int).natAbs<pF)&&decide ((10:Int).natAbs<pF)) _=_
 rw[decide_eq_true (Gp hv hk),decide_eq_true NK];rfl
noncomputable def qR (c:Nat) (nums ds:List Nat) (v:Nat):Option (List Nat × List Nat × Nat):=if c=46 then (if bI v=ds/\v<=255 then some (nums++[v],[],0) else none) else if aO c=true then some (nums,ds++[c],v*10+(c - 48)) else none
theorem AP {c:Nat}{r nums ds:List Nat}{v:Nat}:gg (c::r) nums ds v=match qR c nums ds v with
  | some x=>gg r x.1 x.2.1 x.2.2
  | none=>none:=by
 rw[qQ]
 unfold qR
 by_cases h:c=46
 ·rw[if_pos h,if_pos h]
  by_cases g:bI v=ds/\v<=255
  ·rw[if_pos g,if_pos g]
  ·rw[if_neg g,if_neg g]
 ·rw[if_neg h,if_neg h]
  by_cases g:aO c=true
  ·rw[if_pos g,if_pos g]
  ·rw[if_neg g,if_neg g]
theorem Gq {D:Fn->List V->R V}{T o5:Option V}{c v:Nat}{nums ds:List Nat} (hc:c<128) (hd:ds.length<=550) (hv:v<10 ^ ds.length) (hn:nums.length<1000):match qR c nums ds v with
  | some x=>∃ o,ak D gM [T,some (.list (vl nums)),some (.str ds),some (vi v),some (.str [c]),o5]=.next [T,some (.list (vl x.1)),some (.str x.2.1),some (vi x.2.2),some (.str [c]),o]
  | none=>ak D gM [T,some (.list (vl nums)),some (.str ds),some (vi v),some (.str [c]),o5]=.ret (.list []):=by
 have dot:=E.cmp (D:=D) (J:=[T,some (.list (vl nums)),some (.str ds),some (vi v),some (.str [c]),o5]) (op:=.eq) (a:=.loc 4) (b:=.const (.str [46])) (x:=.str [c]) (y:=.str [46]) rfl rfl (b5 (NM c 46))
 unfold qR
 by_cases S4:c=46
 ·rw[if_pos S4]
  have c1:=C.or (D:=D) (J:=[T,some (.list (vl nums)),some (.str ds),some (vi v),some (.str [c]),o5]) (a:=.cmp .ne (.prim .str (.cons (.loc 3) .nil)) (.loc 2)) (b:=.cmp .gt (.loc 3) (.const (.int 255))) (x:=!decide (bI v=ds)) (E.cmp (op:=.ne) (x:=.str (bI v)) (y:=.str ds) (E.prim (E.one (v:=vi v) rfl) (e8 (NJ hv (Nat.le_trans hd (by decide))) rfl)) rfl rfl) (E.cmp (op:=.gt) (x:=vi v) (y:=vi 255) rfl rfl (b5 (fP 255 v)))
  by_cases hg:bI v=ds/\v<=255
  ·rw[if_pos hg]
   exact⟨o5,S.last.trans ((S.aF dot (decide_eq_true S4)).trans (S.seq (S.skip (c1.trans (by rw[decide_eq_true hg.1,decide_eq_false (Nat.not_lt.mpr hg.2)];rfl))) (S.seq (S.Gm (f:=vi) (v:=v) (l:=nums) rfl rfl (Nat.lt_trans hn (by decide))) (S.seq (S.assign rfl) (S.one (S.assign rfl))))))⟩
  ·rw[if_neg hg]
   have t:(!decide (bI v=ds)||decide (255<v))=true:=by
    by_cases h1:bI v=ds
    ·rw[decide_eq_true h1,decide_eq_true (Nat.not_le.mp fun q=>hg ⟨h1,q⟩)];rfl
    ·rw[decide_eq_false h1];rfl
   exact S.last.trans ((S.aF dot (decide_eq_true S4)).trans (S.end ((S.aF c1 t).trans rfl)))
 ·rw[if_neg S4]
  have e1:∀ {z:Int},dW c=z->bT D (.assign 5 (.aH .find (.glob cN) (.cons (.loc 4) .nil))) [T,some (.list (vl nums)),some (.str ds),some (vi v),some (.str [c]),o5]=.next [T,some (.list (vl nums)),some (.str ds),some (vi v),some (.str [c]),some (.int z)]:=fun h=>h ▸ S.assign (E.aH rfl rfl (E.one rfl) rfl)
  rcases xO hc with ⟨q1,q2,q3⟩ | ⟨q1,q2⟩
  ·rw[if_pos q1]
   exact⟨_,S.last.trans ((S.cO dot (decide_eq_false S4)).trans (S.seq (e1 q2) (S.seq (S.skip ((C.or (E.cmp (op:=.lt) (x:=vi (c - 48)) (y:=vi 0) rfl rfl (b5 ((fP (c - 48) 0).trans (decide_eq_false (Nat.not_lt_zero _))))) (E.cmp (op:=.gt) (x:=vi (c - 48)) (y:=vi 9) rfl rfl (b5 ((fP 9 (c - 48)).trans (decide_eq_false (Nat.not_lt.mpr q3)))))).trans rfl))
    (S.seq (S.assign (v:=.str (ds++[c])) (E.bin (x:=.str ds) (y:=.str [c]) rfl rfl (adds (Nat.le_trans (Nat.add_le_add hd (Nat.le_refl 1)) (by decide))))) (S.one (S.assign (v:=vi (v*10+(c - 48))) (E.bin (x:=vi (v*10)) (y:=vi (c - 48)) (E.bin (x:=vi v) (y:=vi 10) rfl rfl (TG hv (Nat.le_trans hd (by decide)))) rfl rfl)))))))⟩
  ·rw[q1,if_neg Bool.false_ne_true]
   exact S.last.trans ((S.cO dot (decide_eq_false S4)).trans (S.seq (e1 rfl) (S.end ((S.aF ((C.or (E.cmp (op:=.lt) (x:=.int (dW c)) (y:=.int 0) rfl rfl rfl) (E.cmp (op:=.gt) (x:=.int (dW c)) (y:=.int 9) rfl rfl rfl)).trans (b5 (Bool.decide_or ..).symm)) (decide_eq_true q2)).trans rfl))))
theorem Jm {c v:Nat}{nums ds:List Nat}{x:List Nat × List Nat × Nat} (h:qR c nums ds v=some x) (hv:v<10 ^ ds.length):x.2.1.length<=ds.length+1/\x.2.2<10 ^ x.2.1.length/\x.1.length<=nums.length+1:=by
 unfold qR at h
 by_cases h1:c=46
 ·rw[if_pos h1] at h
  by_cases h2:bI v=ds/\v<=255
  ·rw[if_pos h2] at h;injection h with h;subst h
   exact⟨Nat.zero_le _,show (0:Nat)<10 ^ 0 by decide,by rw[List.length_append];exact Nat.le_refl _⟩
  ·rw[if_neg h2] at h;contradiction
 ·rw[if_neg h1] at h
  by_cases h2:aO c=true
  ·rw[if_pos h2] at h;injection h with h;subst h
   have hd:c - 48<10:=by
    unfold aO at h2
    simp only[Bool.and_eq_true,decide_eq_true_eq] at h2
    omega
   refine⟨by rw[List.length_append];exact Nat.le_refl _,?_,Nat.le_succ _⟩
   show v*10+(c - 48)<10 ^ (ds++[c]).length
   rw[List.length_append,List.length_singleton,Nat.pow_succ]
   exact Nat.lt_of_lt_of_le (Nat.add_lt_add_left hd _) (by rw[<- Nat.succ_mul];exact Nat.mul_le_mul_right 10 hv)
  ·rw[if_neg h2] at h;contradiction
theorem Jn {D:Fn->List V->R V}{T:Option V}:∀ (cs nums ds:List Nat) (v:Nat) (o4 o5:Option V),(∀ c∈cs,c<128)->ds.length+cs.length<=550->v<10 ^ ds.length->nums.length+cs.length<=1000->
  match gg cs nums ds v with
  | some ns=>∃ a b c d,dh 4 (ak D gM) (cs.map fun c=>V.str [c]) [T,some (.list (vl nums)),some (.str ds),some (vi v),o4,o5]=.next [T,some (.list (vl ns)),a,b,c,d]
  | none=>dh 4 (ak D gM) (cs.map fun c=>V.str [c]) [T,some (.list (vl nums)),some (.str ds),some (vi v),o4,o5]=.ret (.list []):=by
 intro z0
 induction z0 with
 | nil=>
  exact fun nums ds v o4 o5 O O O O=>⟨_,_,_,_,rfl⟩
 | cons c r ih=>
  intro nums ds v o4 o5 hc hd hv hn
  rw[List.length_cons] at hd hn
  have hb:=Gq (D:=D) (T:=T) (o5:=o5) (nums:=nums) (hc c (.head _)) (Nat.le_trans (Nat.le_add_right _ _) hd) hv (Nat.lt_of_lt_of_le (Nat.lt_add_of_pos_right (Nat.succ_pos _)) hn)
  rw[AP]
  cases hx:qR c nums ds v with
  | none=>rw[hx] at hb;exact F.stop hb
  | some x=>
   rw[hx] at hb
   refine Exists.elim hb fun o hb=>?_
   refine b6 (Jm hx hv) fun k1 k2 k3=>?_
   have ih:=ih x.1 x.2.1 x.2.2 (some (.str [c])) o (fun c NP=>hc c (.tail _ NP)) (Nat.le_trans (Nat.add_le_add_right k1 _) (by rw[Nat.add_right_comm];exact hd)) k2 (Nat.le_trans (Nat.add_le_add_right k3 _) (by rw[Nat.add_right_comm];exact hn))
   dsimp only
   cases hr:gg r x.1 x.2.1 x.2.2 with
   | none=>rw[hr] at ih;exact F.cons hb ih
   | some w=>rw[hr] at ih;exact ih.imp fun a h=>h.imp fun b h=>h.imp fun c h=>h.imp fun d e=>F.cons hb e
noncomputable def aI (t:List Nat):List Nat:=match gg (t++[46]) [] [] 0 with
 | some ns=>if ns.length=4 then ns else []
 | none=>[]
theorem Jo {n:Nat} (t:List Nat) (ht:∀ c∈t,c<128) (hl:t.length<=520):ae defs (n+1) .lR [.str t]=.ok (.list (vl (aI t))):=by
 show (ak (ae defs n) CY [some (.str t),none,none,none,none,none]).value=_
 have qS:∀ c∈t++[46],c<128:=fun c hc=>(List.mem_append.mp hc).elim (ht c) fun h=>by rw[List.mem_singleton.mp h];decide
 have NQ:(t++[46]).length=t.length+1:=List.length_append
 have e:=Jn (D:=ae defs n) (T:=some (.str t)) (t++[46]) [] [] 0 none none qS (by rw[NQ,List.length_nil];lia) (Nat.lt_succ_self 0) (by rw[NQ,List.length_nil];lia)
 have hm:t.length+1<=1000000:=Nat.le_trans (Nat.succ_le_succ hl) (by decide)
 have Rg:ascii (t++[46])=true:=by
  unfold ascii
  rw[List.all_eq_true]
  exact fun c hc=>decide_eq_true (qS c hc)
 have hi:gI (ae defs n) (.val (.bin .add (.loc 0) (.const (.str [46])))) [some (.str t),some (.list (vl [])),some (.str []),some (vi 0),none,none]=.ok ((t++[46]).map fun c=>.str [c]):=f7 (E.bin rfl rfl (adds hm)) (Gk Rg rfl)
 have TH:((t++[46]).map fun c=>V.str [c]).length<=lim:=by rw[List.length_map,NQ];exact hm
 unfold aI
 revert e
 cases gg (t++[46]) [] [] 0 with
 | none=>exact fun e=>S.val (S.seq rfl (S.seq rfl (S.seq rfl (S.end (S.for hi TH e)))))
 | some ns=>
  rintro ⟨a,b,c,d,e⟩
  refine S.val (S.seq rfl (S.seq rfl (S.seq rfl (S.seq (S.for hi TH e) ?_))))
  show _=SR.ret (.list (vl (if ns.length=4 then ns else [])))
  by_cases h4:ns.length=4
  ·rw[if_pos h4]
   exact S.seq (S.skip ((E.neN (E.s8 rfl) rfl).trans (b5 (by rw[decide_eq_true h4];rfl)))) (S.end (S.ret rfl))
  ·rw[if_neg h4]
   exact S.end ((S.aF (E.neN (E.s8 rfl) rfl) (by rw[decide_eq_false h4];rfl)).trans rfl)
abbrev gO (p:List Nat):Prop:=p.all aO=true/\bI (digitsVal p)=p/\digitsVal p<=255
theorem dX {c:Nat}:∀ l:List Nat,ai c l≠[]:=by
 intro z0
 induction z0 with
 | nil=>simp[fA,aT]
 | cons x r ih=>
  rw[aT]
  by_cases h:x=c
  ·rw[if_pos h];exact List.cons_ne_nil _ _
  ·rw[if_neg h]
   cases ai c r<;>exact List.cons_ne_nil _ _
theorem bU {c:Nat} (l:List Nat):∃ p ps,ai c l=p::ps:=by
 cases h:ai c l with
 | nil=>exact absurd h (dX l)
 | cons p ps=>exact⟨p,ps,rfl⟩
theorem digitsVal_snoc (ds:List Nat) (c:Nat):digitsVal (ds++[c])=digitsVal ds*10+(c - 48):=by simp[digitsVal]
set_option tactic.hygienic true in
theorem xP:∀ (t nums ds:List Nat),ds.all aO=true->∀ p ps,ai 46 t=p::ps->
  gg (t++[46]) nums ds (digitsVal ds)=if gO (ds++p)/\∀ q∈ps,gO q then some (nums++digitsVal (ds++p)::ps.map digitsVal) else none:=by
 intro z0
 induction z0 with
 | nil=>
  intro nums ds hd p ps h
  injection h with h zq;subst h zq
  rw[List.nil_append,qQ,if_pos rfl,Jl,List.append_nil]
  unfold gO
  simp[hd]
 | cons c r ih=>
  intro nums ds hd p ps h
  rw[aT] at h
  rw[List.cons_append,qQ]
  by_cases hc:c=46
  ·rw[if_pos hc] at h ⊢
   cases h
   refine bW (bU (c:=46) r) fun p' XQ e=>?_
   have ih:=ih (nums++[digitsVal ds]) [] rfl p' XQ e
   rw[show digitsVal []=0 from rfl] at ih
   rw[ih,e,List.append_nil,List.nil_append]
   unfold gO
   simp only[hd,true_and,List.mem_cons,List.forall_mem_cons,forall_eq_or_imp]
   split
   ·rename_i h1
    split
    ·rename_i h2
     rw[if_pos ⟨h1,h2⟩]
     simp
    ·rename_i h2
     rw[if_neg fun q=>h2 q.2]
   ·rename_i h1
    rw[if_neg fun q=>h1 q.1]
  ·rw[if_neg hc] at h ⊢
   refine bW (bU (c:=46) r) fun p' XQ e=>?_
   rw[e] at h
   cases h
   by_cases hq:aO c=true
   ·rw[if_pos hq]
    have ih:=ih nums (ds++[c]) (by rw[List.all_append,hd];simp[hq]) p' ps e
    rw[digitsVal_snoc] at ih
    rw[ih]
    simp
   ·rw[if_neg hq,if_neg]
    rintro ⟨⟨h1,_⟩,_⟩
    rw[List.all_append,List.all_cons] at h1
    simp at h1
    exact hq h1.2.1
theorem dY {t:List Nat}:aI t=if (ai 46 t).length=4/\∀ q∈ai 46 t,gO q then (ai 46 t).map digitsVal else []:=by
 refine bW (bU (c:=46) t) fun p ps e=>?_
 have this:gg (t++[46]) [] [] 0=_:=xP t [] [] rfl p ps e
 rw[e]
 unfold aI
 by_cases h2:gO p/\∀ q∈ps,gO q
 ·rw[this.trans (if_pos h2)]
  show (if (digitsVal p::ps.map digitsVal).length=4 then _ else _)=_
  rw[List.length_cons,List.length_map]
  by_cases h4:ps.length+1=4
  ·rw[if_pos h4,if_pos ⟨h4,List.forall_mem_cons.mpr h2⟩];rfl
  ·rw[if_neg h4,if_neg fun q=>h4 q.1]
 ·rw[this.trans (if_neg h2),if_neg fun q=>h2 (List.forall_mem_cons.mp q.2)]
noncomputable def jj (p:List Nat):Bool:=!p.isEmpty&&p.all aO&&!(decide (1<p.length)&&decide (p.head?=some 48))
theorem foldl_ge:∀ (r:List Nat) (v:Nat),v<=r.foldl (fun a c=>a*10+(c - 48)) v
 | [],v=>Nat.le_refl _
 | c::r,v=>Nat.le_trans (by lia) (foldl_ge r (v*10+(c - 48)))
theorem k7 {c:Nat} (h:aO c=true):∃ d:Fin 10,c=48+d.1:=by
 unfold aO at h
 simp only[Bool.and_eq_true,decide_eq_true_eq] at h
 exact⟨⟨c - 48,by omega⟩,by simp;omega⟩
theorem mj (p:List Nat):gO p↔jj p=true/\digitsVal p<=255:=by
 unfold gO jj
 simp only[Bool.and_eq_true,Bool.not_eq_true',Bool.and_eq_false_iff,decide_eq_false_iff_not]
 constructor
 ·rintro ⟨h1,h2,h3⟩
  have:∀ v:Fin 256,(bI ((v.1:Nat):Int)).isEmpty=false/\(¬ 1<(bI ((v.1:Nat):Int)).length∨¬ (bI ((v.1:Nat):Int)).head?=some 48):=by decide +kernel
  have:=this ⟨digitsVal p,by lia⟩
  dsimp only at this
  rw[h2] at this
  exact⟨⟨⟨this.1,h1⟩,this.2⟩,h3⟩
 ·rintro ⟨⟨⟨h0,h1⟩,h2⟩,h3⟩
  refine⟨h1,?_,h3⟩
  match p,h0,h1,h2,h3 with
  | [],h0,_,_,_=>contradiction
  | [a],_,h1,_,_=>
   simp only[List.all_cons,Bool.and_eq_true] at h1
   refine Exists.elim (k7 h1.1) fun x aw=>?_;subst aw
   have:∀ x:Fin 10,bI (digitsVal [48+x.1]:Nat)=[48+x.1]:=by decide +kernel
   exact this x
  | [a,b],_,h1,h2,_=>
   simp only[List.all_cons,Bool.and_eq_true] at h1
   refine Exists.elim (k7 h1.1) fun x aw=>?_;subst aw
   refine Exists.elim (k7 h1.2.1) fun y aw=>?_;subst aw
   have pH:x.1≠0:=fun q=>by simp[q] at h2
   have:∀ x y:Fin 10,x.1≠0->bI (digitsVal [48+x.1,48+y.1]:Nat)=[48+x.1,48+y.1]:=by decide +kernel
   exact this x y pH
  | [a,b,c],_,h1,h2,_=>
   simp only[List.all_cons,Bool.and_eq_true] at h1
   refine Exists.elim (k7 h1.1) fun x aw=>?_;subst aw
   refine Exists.elim (k7 h1.2.1) fun y aw=>?_;subst aw
   refine Exists.elim (k7 h1.2.2.1) fun z aw=>?_;subst aw
   have pH:x.1≠0:=fun q=>by simp[q] at h2
   have:∀ x y z:Fin 10,x.1≠0->bI (digitsVal [48+x.1,48+y.1,48+z.1]:Nat)=[48+x.1,48+y.1,48+z.1]:=by decide +kernel
   exact this x y z pH
  | a::b::c::d::r,_,h1,h2,h3=>
   exfalso
   simp only[List.all_cons,Bool.and_eq_true] at h1
   refine Exists.elim (k7 h1.1) fun x aw=>?_;subst aw
   have pH:x.1≠0:=fun q=>by simp[q] at h2
   have:=foldl_ge r (((x.1*10+(b - 48))*10+(c - 48))*10+(d - 48))
   have e:digitsVal ((48+x.1)::b::c::d::r)=r.foldl (fun a c=>a*10+(c - 48)) (((x.1*10+(b - 48))*10+(c - 48))*10+(d - 48)):=by
    unfold digitsVal
    simp only[List.foldl_cons]
    congr 1
    lia
   rw[e] at h3
   lia
theorem jk {D:Fn->List V->R V}{T B P o4 o5:Option V} (p:List Nat):ao D (.not (.aH .isdigit (.loc 3) .nil)) [T,B,P,some (.bytes p),o4,o5]=.ok (.bool !(!p.isEmpty&&p.all aO)):=E.not (x:=.bool (!p.isEmpty&&p.all aO)) (E.aH rfl rfl rfl rfl) rfl
theorem uf {D:Fn->List V->R V}{T B P o4 o5:Option V}:∀ p:List Nat,ao D (.and (.cmp .gt (.prim .len (.cons (.loc 3) .nil)) (.const (.int 1))) (.cmp .eq (.idx (.loc 3) (.const (.int 0))) (.prim .ord (.cons (.const (.str [48])) .nil)))) [T,B,P,some (.bytes p),o4,o5]=.ok (.bool (decide (1<p.length)&&decide (p.head?=some 48)))
 | []=>rfl
 | a::q=>C.and (E.cmp (op:=.gt) (x:=vi (q.length+1)) (y:=vi 1) rfl rfl (b5 (fP 1 _))) (E.cmp (op:=.eq) (x:=vi a) (y:=vi 48) rfl rfl (b5 ((e7 a 48).trans (decide_eq_decide.mpr ⟨congrArg some,Option.some.inj⟩))))
theorem Jp {D:Fn->List V->R V}{T B P:Option V}{o4 o5:Option V} (ps:List (List Nat)) (o:Option V) :
  (ps.all jj=true/\∃ o',dh 3 (ak D ny) (ps.map V.bytes) [T,B,P,o,o4,o5]=.next [T,B,P,o',o4,o5])∨(ps.all jj=false/\∃ J,dh 3 (ak D ny) (ps.map V.bytes) [T,B,P,o,o4,o5]=.exc .syntax J):=by
 refine F.scan (C:=fun o=>[T,B,P,o,o4,o5]) (Z:=fun s=>∃ J,s=.exc .syntax J) (fun O O=>rfl) (fun s k ⟨J,h⟩=>h ▸ rfl) (fun p h=>?_) (fun p h=>?_) ps o
 ·rw[jj,Bool.and_eq_true] at h
  exact S.seq (S.skip ((jk p).trans (b5 (congrArg (!·) h.1)))) (S.one (S.skip ((uf p).trans (b5 (TC h.2)))))
 ·cases hd:(!p.isEmpty&&p.all aO) with
  | false=>exact⟨_,S.fu ((S.aF (jk p) (congrArg (!·) hd)).trans rfl)⟩
  | true=>
   rw[jj,hd,Bool.true_and] at h
   exact⟨_,S.seq (S.skip ((jk p).trans (b5 (congrArg (!·) hd)))) (S.fu ((S.aF (uf p) (TF h)).trans rfl))⟩
theorem eG {c:Nat}:∀ (t:List Nat) (p:List Nat),p∈ai c t->p.length<=t.length
 | [],p,h=>by simp[fA,aT] at h;subst h;exact Nat.le_refl _
 | x::r,p,h=>by
  rw[aT] at h
  split at h
  ·rcases List.mem_cons.mp h with h | h
   ·subst h;simp
   ·have:=eG r p h;simp;lia
  ·refine bW (bU (c:=c) r) fun q qs e=>?_
   rw[e] at h
   rcases List.mem_cons.mp h with h | h
   ·subst h
    have:=eG r q (by rw[e];exact .head _)
    simp;lia
   ·have:=eG r p (by rw[e];exact .tail _ h)
    simp;lia
noncomputable def k8 (l:List Nat):R V:=if l=[] then .exc .syntax else .ok (.bytes l)
set_option tactic.hygienic true in
theorem qT {l:List Nat}:bq .bytes [.list (vl l)]=if ∀ x∈l,x<256 then .ok (.bytes l) else .exc .value:=by
 split
 ·rename_i h;exact qP h
 ·rename_i h
  unfold bq
  dsimp only
  rw[C6]
  dsimp only
  rw[if_neg,R.guard,if_pos]
  ·simp
  ·intro q
   apply h
   intro x hx
   rw[List.all_eq_true] at q
   have:=q (x:Int) (List.mem_map.mpr ⟨x,hx,rfl⟩)
   simp at this
   omega
theorem qU {n:Nat}{a:V} (t:List Nat) (hl:t.length<=520):(ak (ae defs n) tK [some a,some (.bytes t),none,none,none,none]).value=k8 (aI t):=by
 have s1:bT (ae defs n) tI [some a,some (.bytes t),none,none,none,none]=.next [some a,some (.bytes t),some (.list ((ai 46 t).map V.bytes)),none,none,none]:=S.assign (E.aH rfl rfl rfl (e8 (Nat.le_trans hl (by decide)) rfl))
 rw[dY]
 by_cases h4:(ai 46 t).length=4
 ·have s2:bT (ae defs n) tJ [some a,some (.bytes t),some (.list ((ai 46 t).map V.bytes)),none,none,none]=.next [some a,some (.bytes t),some (.list ((ai 46 t).map V.bytes)),none,none,none]:=S.skip ((E.neN (E.Jj rfl) rfl).trans (b5 (by rw[decide_eq_true h4];rfl)))
  have hlen:((ai 46 t).map V.bytes).length<=lim:=by rw[List.length_map,h4];decide
  rcases Jp (D:=ae defs n) (T:=some a) (B:=some (.bytes t)) (P:=some (.list ((ai 46 t).map V.bytes))) (o4:=none) (o5:=none) (ai 46 t) none with ⟨hp,o',e⟩ | ⟨hp,J,e⟩
  ·have hp:=List.all_eq_true.mp hp
   have hm:((ai 46 t).map V.bytes).map (fun x=>match x with | .bytes p=>vi (digitsVal p) | _=>.none)=vl ((ai 46 t).map digitsVal):=by show _=List.map vi _;rw[List.map_map,List.map_map];rfl
   have xQ:ao (ae defs n) (.comp (.prim .int (.cons (.loc 5) .nil)) 5 (.val (.loc 2)) (.const (.bool true))) [some a,some (.bytes t),some (.list ((ai 46 t).map V.bytes)),o',none,none]=.ok (.list (vl ((ai 46 t).map digitsVal))):=by
    refine hm ▸ E.map (f:=fun x=>match x with | .bytes p=>vi (digitsVal p) | _=>.none) rfl hlen fun x hx=>?_
    refine Exists.elim (List.mem_map.mp hx) fun y zz=>aC zz fun hy aw=>?_;clear zz;subst aw
    have h1:=hp y hy
    rw[jj,Bool.and_eq_true] at h1
    exact E.prim (E.one rfl) (Gk (Bool.and_eq_true_iff.mpr ⟨h1.1,decide_eq_true (Nat.le_trans (eG t y hy) (Nat.le_trans hl (by decide)))⟩) rfl)
   by_cases hv:∀ x∈(ai 46 t).map digitsVal,x<256
   ·rw[if_pos ⟨h4,fun q hq=>(mj q).mpr ⟨hp q hq,Nat.le_of_lt_succ (hv (digitsVal q) (List.mem_map.mpr ⟨q,hq,rfl⟩))⟩⟩]
    refine (S.val (S.seq s1 (S.seq s2 (S.seq (S.for rfl hlen e) (S.end (S.C4 (S.seq (S.assign xQ) (S.end (S.ret (E.prim (E.one rfl) (qT.trans (if_pos hv)))))))))))).trans (if_neg fun q=>?_).symm
    have:=congrArg List.length q
    rw[List.length_map,h4] at this
    contradiction
   ·rw[if_neg fun q=>hv fun x hx=>Exists.elim (List.mem_map.mp hx) fun y z=>z.2 ▸ Nat.lt_succ_of_le ((mj y).mp (q.2 y z.1)).2]
    exact S.k6 (S.seq s1 (S.seq s2 (S.seq (S.for rfl hlen e) (S.fu (S.C5 (S.seq (S.assign xQ) (S.fu (S.Wr (E.prim (E.one rfl) (qT.trans (if_neg hv)))))) rfl)))))
  ·rw[if_neg fun q=>Bool.false_ne_true (hp.symm.trans (List.all_eq_true.mpr fun p h=>((mj p).mp (q.2 p h)).1))]
   exact S.k6 (S.seq s1 (S.seq s2 (S.fu (S.for rfl hlen e))))
 ·rw[if_neg fun q=>h4 q.1]
  exact S.k6 (S.seq s1 (S.fu ((S.aF (E.neN (E.Jj rfl) rfl) (by rw[decide_eq_false h4];rfl)).trans rfl)))
theorem NR {n:Nat} (t:List Nat) (ha:ascii t=true) (hl:t.length<=520):ae defs (n+1) .eB [.str t]=k8 (aI t):=by
 show (ak (ae defs n) uY [some (.str t),none,none,none,none,none]).value=_
 rw[<- qU (n:=n) (a:=.str t) t hl]
 exact congrArg SR.value (S.seq ((S.aF (E.not (x:=.bool false) rfl rfl) rfl).trans (S.one (S.assign (E.aH rfl rfl rfl (Gk ha rfl))))) rfl)
theorem Jq {n:Nat} (t:List Nat) (hl:t.length<=520):ae defs (n+1) .eB [.bytes t]=k8 (aI t):=by
 show (ak (ae defs n) uY [some (.bytes t),none,none,none,none,none]).value=_
 rw[<- qU (n:=n) (a:=.bytes t) t hl]
 exact congrArg SR.value (S.seq rfl rfl)
noncomputable def cn (c:Nat):Option Nat:=if 48<=c/\c<=57 then some (c - 48) else if 97<=c/\c<=102 then some (c - 87) else if 65<=c/\c<=70 then some (c - 55) else none
theorem jR {c d:Nat} (h:cn c=some d):d<16:=by
 unfold cn at h
 split at h
 ·injection h with h;subst h;omega
 ·split at h
  ·injection h with h;subst h;omega
  ·split at h
   ·injection h with h;subst h;omega
   ·contradiction
theorem NS {c:Nat} (h:c<128):match cn c with
  | some d=>(dW c=(d:Int)/\d<=15)∨(dW c=((d+6:Nat):Int)/\15<d+6)
  | none=>dW c<0:=by
 have:∀ c:Fin 128,(match cn c.1 with
  | some d=>(dW c.1=(d:Int)/\d<=15)∨(dW c.1=((d+6:Nat):Int)/\15<d+6)
  | none=>dW c.1<0):=by
  intro c
  have:∀ c:Fin 128,(match cn c.1 with
   | some d=>(decide (dW c.1=(d:Int))&&decide (d<=15))||(decide (dW c.1=((d+6:Nat):Int))&&decide (15<d+6))
   | none=>decide (dW c.1<0))=true:=by decide +kernel
  have:=this c
  revert this
  cases cn c.1 with
  | none=>intro h;exact of_decide_eq_true h
  | some d=>intro h;simpa using h
 exact this ⟨c,h⟩
noncomputable def cY:List Nat->Nat->Option Nat
 | [],v=>some v
 | c::r,v=>match cn c with
  | some d=>cY r (v*16+d)
  | none=>none
theorem nJ:cY [] v=some v:=rfl
theorem dZ:cY (c::r) v=(match cn c with
  | some d=>cY r (v*16+d)
  | none=>none):=rfl
theorem fD (h:cn c=some d):cY (c::r) v=cY r (v*16+d):=by rw[dZ,h]
noncomputable def aR (p:List Nat):Option Nat:=if p.length<1∨4<p.length then none else cY p 0
noncomputable def Jr (o:Option Nat):Int:=match o with
 | some v=>(v:Int)
 | none=>-1
theorem ug:∀ {p:List Nat}{v k w:Nat},v<16 ^ k->cY p v=some w->w<16 ^ (k+p.length)
 | [],v,k,w,hv,h=>by injection h with h;subst h;simpa using hv
 | c::r,v,k,w,hv,h=>by
  rw[dZ] at h
  cases q:cn c with
  | some d=>
   rw[q] at h
   have:=jR q
   have:=ug (k:=k+1) (by rw[Nat.pow_succ];lia) h
   rwa [show k+(c::r).length=k+1+r.length by rw[List.length_cons];lia]
  | none=>rw[q] at h;contradiction
theorem Gr {p:List Nat}{v:Nat} (h:aR p=some v):v<65536:=by
 unfold aR at h
 split at h
 ·contradiction
 ·have:=ug (k:=0) (by decide) h
  have h2:(16:Nat) ^ (0+p.length)<=16 ^ 4:=Nat.pow_le_pow_right (by decide) (by lia)
  have:(16:Nat) ^ 4=65536:=rfl
  lia
theorem C8 {v:Nat} (h:v<16 ^ 100):(v:Int).natAbs<pF:=C7 h (by decide)
theorem NT {m K:Nat} (hm:m<16 ^ 100) (hK:K<16 ^ 100:=by decide):sP .mul (vi m) (vi K)=.ok (vi (m*K)):=by
 show R.guard (decide ((m:Int).natAbs<pF)&&decide ((K:Int).natAbs<pF)) _=_
 rw[decide_eq_true (C8 hm),decide_eq_true (C8 hK)];rfl
theorem AQ {D:Fn->List V->R V}{T o:Option V}{v c:Nat} (hc:c<128) (hv:v<16 ^ 100):match cn c with
  | some d=>ak D fO [T,some (vi v),some (.str [c]),o]=.next [T,some (vi (v*16+d)),some (.str [c]),some (vi d)]
  | none=>ak D fO [T,some (vi v),some (.str [c]),o]=.ret (.int (-1)):=by
 have e1:∀ {z:Int},dW c=z->bT D (.assign 3 (.aH .find (.glob cN) (.cons (.loc 2) .nil))) [T,some (vi v),some (.str [c]),o]=.next [T,some (vi v),some (.str [c]),some (.int z)]:=fun h=>h ▸ S.assign (E.aH rfl rfl (E.one rfl) rfl)
 have ht:=NS hc
 have fin:∀ d,ak D (.cons (.assign 1 (.bin .add (.bin .mul (.loc 1) (.const (.int 16))) (.loc 3))) .nil) [T,some (vi v),some (.str [c]),some (vi d)]=.next [T,some (vi (v*16+d)),some (.str [c]),some (vi d)]:=fun d=>
  S.one (S.assign (v:=vi (v*16+d)) (E.bin (x:=vi (v*16)) (y:=vi d) (E.bin (x:=vi v) (y:=vi 16) rfl rfl (NT hv)) rfl rfl))
 have pos:∀ d:Nat,bT D (.ite (.cmp .lt (.loc 3) (.const (.int 0))) (.cons (.ret (.const (.int (-1)))) .nil) .nil) [T,some (vi v),some (.str [c]),some (vi d)]=.next [T,some (vi v),some (.str [c]),some (vi d)]:=fun d=>S.skip (E.cmp (op:=.lt) (x:=vi d) (y:=vi 0) rfl rfl (b5 ((fP d 0).trans (decide_eq_false (Nat.not_lt_zero d)))))
 cases hx:cn c with
 | none=>
  rw[hx] at ht
  exact S.seq (e1 rfl) (S.end ((S.aF (E.cmp (op:=.lt) (x:=.int (dW c)) (y:=.int 0) rfl rfl (b5 (decide_eq_true ht))) rfl).trans rfl))
 | some d=>
  rw[hx] at ht
  rcases ht with ⟨h1,h2⟩ | ⟨h1,h2⟩
  ·exact S.seq (e1 h1) (S.seq (pos d) (S.seq (S.skip (E.cmp (op:=.gt) (x:=vi d) (y:=vi 15) rfl rfl (b5 ((fP 15 d).trans (decide_eq_false (Nat.not_lt.mpr h2)))))) (fin d)))
  ·exact S.seq (e1 h1) (S.seq (pos (d+6)) (S.seq (ρ':=[T,some (vi v),some (.str [c]),some (vi d)]) ((S.aF (E.cmp (op:=.gt) (x:=vi (d+6)) (y:=vi 15) rfl rfl (b5 ((fP 15 (d+6)).trans (decide_eq_true h2)))) rfl).trans (S.one (S.assign (v:=vi d) (E.bin (x:=vi (d+6)) (y:=vi 6) rfl rfl (qN (Int.ofNat_sub (Nat.le_add_left 6 d)).symm))))) (fin d)))
theorem Gs {D:Fn->List V->R V}{T:Option V}:∀ (cs:List Nat) (v k:Nat) (o2 o3:Option V),(∀ c∈cs,c<128)->v<16 ^ k->k+cs.length<=50->
  match cY cs v with
  | some w=>∃ a b,dh 2 (ak D fO) (cs.map fun c=>V.str [c]) [T,some (vi v),o2,o3]=.next [T,some (vi w),a,b]
  | none=>dh 2 (ak D fO) (cs.map fun c=>V.str [c]) [T,some (vi v),o2,o3]=.ret (.int (-1)):=by
 intro z0
 induction z0 with
 | nil=>
  exact fun v k o2 o3 O O O=>⟨_,_,rfl⟩
 | cons c r ih=>
  intro v k o2 o3 hc hv hk
  have hb:=AQ (D:=D) (T:=T) (o:=o3) (hc c (.head _)) (Nat.lt_of_lt_of_le hv (Nat.pow_le_pow_right (by decide) (Nat.le_trans (Nat.le_add_right _ _) (Nat.le_trans hk (by decide)))))
  rw[dZ]
  cases hx:cn c with
  | none=>rw[hx] at hb;exact F.stop hb
  | some d=>
   rw[hx] at hb
   have hd:=jR hx
   have ih:=ih (v*16+d) (k+1) (some (.str [c])) (some (vi d)) (fun c NP=>hc c (.tail _ NP)) (by rw[Nat.pow_succ];omega) (by rw[Nat.add_right_comm];exact hk)
   dsimp only
   cases hr:cY r (v*16+d) with
   | none=>rw[hr] at ih;exact F.cons hb ih
   | some w=>rw[hr] at ih;exact ih.imp fun a h=>h.imp fun b e=>F.cons hb e
theorem fQ {t:List Nat} (h:∀ c∈t,c<128):ascii t=true:=by
 unfold ascii
 rw[List.all_eq_true]
 exact fun c hc=>decide_eq_true (h c hc)
theorem Js {D:Fn->List V->R V}{J:Ρ}{e:PE}{t:List Nat} (h:ao D e J=.ok (.str t)) (ha:∀ c∈t,c<128):gI D (.val e) J=.ok (t.map fun c=>V.str [c]):=by
 exact f7 h (Gk (fQ ha) rfl)
theorem NV {n:Nat} (p:List Nat) (hp:∀ c∈p,c<128):ae defs (n+1) .jd [.str p]=.ok (.int (Jr (aR p))):=by
 have hc:ao (ae defs n) (.or (.cmp .lt (.prim .len (.cons (.loc 0) .nil)) (.const (.int 1))) (.cmp .gt (.prim .len (.cons (.loc 0) .nil)) (.const (.int 4)))) [some (.str p),none,none,none]=.ok (.bool (decide (p.length<1)||decide (4<p.length))):=
  C.or (E.cmp (x:=vi p.length) (y:=vi 1) rfl rfl (b5 (fP _ 1))) (E.cmp (x:=vi p.length) (y:=vi 4) rfl rfl (b5 (fP 4 _)))
 unfold aR
 by_cases h:p.length<1∨4<p.length
 ·rw[if_pos h]
  exact S.val (p:=jg) (S.end ((S.aF hc (by rw[<- Bool.decide_or];exact decide_eq_true h)).trans rfl))
 ·rw[if_neg h]
  have h4:p.length<=4:=Nat.le_of_not_lt fun q=>h (.inr q)
  have e:=Gs (D:=ae defs n) (T:=some (.str p)) p 0 0 none none hp (by decide) (by rw[Nat.zero_add];exact Nat.le_trans h4 (by decide))
  have hf:bT (ae defs n) qE [some (.str p),some (vi 0),none,none]=_:=S.for (Js rfl hp) (by rw[List.length_map];exact Nat.le_trans h4 (by decide)) rfl
  have go:∀ {z:SR},ak (ae defs n) qF [some (.str p),some (vi 0),none,none]=z->ak (ae defs n) jg [some (.str p),none,none,none]=z:=fun h'=>S.seq (S.skip (hc.trans (b5 (by rw[<- Bool.decide_or];exact decide_eq_false h)))) (S.seq (S.assign rfl) h')
  cases hw:cY p 0 with
  | none=>rw[hw] at e;exact S.val (p:=jg) (go (S.end (hf.trans e)))
  | some w=>rw[hw] at e;refine bW e fun a b e=>?_;exact S.val (p:=jg) (go (S.seq (hf.trans e) (S.end (S.ret rfl))))
noncomputable def nK:List Nat->List Nat
 | [a,b,c,d]=>[a*256+b,c*256+d]
 | _=>[]
theorem Gu (a b c d:Nat):nK [a,b,c,d]=[a*256+b,c*256+d]:=rfl
noncomputable def bK:List (List Nat)->Bool->Option (List Nat)
 | [],_=>some []
 | p::r,e=>match aR p with
  | some v=>(bK r e).map (v::·)
  | none=>if aI p≠[]/\e=true/\r=[] then some (nK (aI p)) else none
theorem fR:bK (p::r) e=(match aR p with
  | some v=>(bK r e).map (v::·)
  | none=>if aI p≠[]/\e=true/\r=[] then some (nK (aI p)) else none):=rfl
set_option tactic.hygienic true in
theorem dF {t:List Nat} (h:aI t≠[]):∃ a b c d,aI t=[a,b,c,d]/\a<256/\b<256/\c<256/\d<256:=by
 rw[dY] at h ⊢
 split at h
 ·rename_i q
  rw[if_pos q]
  have hv:∀ x∈(ai 46 t).map digitsVal,x<256:=fun x hx=>by
   obtain⟨y,hy,rfl⟩:=List.mem_map.mp hx
   have:=(q.2 y hy).2.2;lia
  have hl:((ai 46 t).map digitsVal).length=4:=by rw[List.length_map];exact q.1
  revert hv hl
  generalize (ai 46 t).map digitsVal=l
  intro hv hl
  match l,hl with
  | [a,b,c,d],_=>exact⟨a,b,c,d,rfl,hv a (by simp),hv b (by simp),hv c (by simp),hv d (by simp)⟩
 ·exact absurd rfl h
noncomputable def zu (T:Option V) (e:Bool) (acc:List Nat) (all:List (List Nat)) (a b c:Option V):Ρ:=[T,some (.bool e),some (.list (vl acc)),some (.list (all.map V.str)),a,b,c]
theorem AR {D:Fn->List V->R V}{J:Ρ}{i v:Nat}{acc:List Nat}{e:PE} (h1:J[i]?=some (some (.list (vl acc)))) (h:ao D e J=.ok (vi v)) (hl:acc.length<1000000):bT D (.append i e) J=.next (J.set i (some (.list (vl (acc++[v]))))):=by
 rw[S.append h1 h (by rw[List.length_map];exact hl) rfl,<- List.map_singleton (f:=vi),<- List.map_append]
theorem Gv {n:Nat}{T:Option V}{all:List (List Nat)}{e:Bool}{p:List Nat} (hp:∀ c∈p,c<128) (zv:p.length<=520) {k:Nat} (hk:all[k]?=some p) {acc:List Nat} (hl:acc.length<100000) {b c:Option V}:match aR p with
  | some v=>ak (ae defs (n+1)) fC (zu T e acc all (some (vi k)) b c)=.next (zu T e (acc++[v]) all (some (vi k)) (some (vi v)) c)
  | none=>if aI p≠[]/\e=true/\k+1=all.length then ak (ae defs (n+1)) fC (zu T e acc all (some (vi k)) b c)=.next (zu T e (acc++nK (aI p)) all (some (vi k)) (some (.int (-1))) (some (.list (vl (aI p)))))
   else ak (ae defs (n+1)) fC (zu T e acc all (some (vi k)) b c)=.ret .none:=by
 have at_:∀ (b:Option V),cT (ae defs (n+1)) (.cons (.idx (.loc 3) (.loc 4)) .nil) (zu T e acc all (some (vi k)) b c)=.ok [.str p]:=fun b=>E.one (E.idx rfl rfl rfl (et (xs:=all.map V.str) (p:=k) (by rw[List.getElem?_map,hk];rfl)))
 have e1:bT (ae defs (n+1)) (.assign 5 (.call .jd (.cons (.idx (.loc 3) (.loc 4)) .nil))) (zu T e acc all (some (vi k)) b c)=.next (zu T e acc all (some (vi k)) (some (.int (Jr (aR p)))) c):=S.assign (E.call (at_ b) (NV p hp))
 cases hv:aR p with
 | some v=>
  rw[hv] at e1
  exact S.seq e1 (S.one ((S.aF (E.cmp (op:=.ge) (x:=vi v) (y:=vi 0) rfl rfl (b5 ((Tz 0 v).trans (decide_eq_true (Nat.zero_le v))))) rfl).trans (S.one (AR rfl rfl (Nat.lt_trans hl (by decide))))))
 | none=>
  rw[hv] at e1
  have e2:bT (ae defs (n+1)) (.assign 6 (.call .lR (.cons (.idx (.loc 3) (.loc 4)) .nil))) (zu T e acc all (some (vi k)) (some (.int (-1))) c)=.next (zu T e acc all (some (vi k)) (some (.int (-1))) (some (.list (vl (aI p))))):=S.assign (E.call (at_ _) (Jo p hp zv))
  have hq:V.eq (.list (vl (aI p))) (.list [])=.ok (decide (aI p=[])):=by cases aI p<;>rfl
  have h1:1<=all.length:=Nat.le_trans (Nat.succ_pos k) (List.getElem?_eq_some_iff.mp hk).1
  have hc:ao (ae defs (n+1)) (.or (.cmp .eq (.loc 6) (.list .nil)) (.or (.not (.loc 1)) (.cmp .ne (.loc 4) (.bin .sub (.prim .len (.cons (.loc 3) .nil)) (.const (.int 1)))))) (zu T e acc all (some (vi k)) (some (.int (-1))) (some (.list (vl (aI p)))))=.ok (.bool (decide (aI p=[])||(!e||!decide (k=all.length - 1)))):=
   C.or (E.cmp (x:=.list (vl (aI p))) (y:=.list []) rfl rfl (by rw[vI,hq];rfl)) (C.or (E.not (x:=.bool e) rfl rfl) (E.cmp (op:=.ne) (x:=vi k) (y:=vi (all.length - 1)) rfl (E.bin (x:=.int (all.map V.str).length) (y:=.int 1) rfl rfl (qN (by rw[List.length_map];exact (Int.ofNat_sub h1).symm))) (b5 (congrArg Bool.not (e7 k _)))))
  have he:decide (k=all.length - 1)=decide (k+1=all.length):=decide_eq_decide.mpr (by lia)
  rw[he] at hc
  dsimp only
  by_cases h:aI p≠[]/\e=true/\k+1=all.length
  ·rw[if_pos h]
   have h0:(decide (aI p=[])||(!e||!decide (k+1=all.length)))=false:=by rw[decide_eq_false h.1,h.2.1,decide_eq_true h.2.2];rfl
   refine S.seq e1 (S.one ((S.cO (E.cmp (op:=.ge) (x:=.int (-1)) (y:=.int 0) rfl rfl rfl) rfl).trans (S.seq e2 (S.seq (S.skip (hc.trans (b5 h0))) ?_))))
   refine kR (dF h.1) fun w x y z zz=>p4 zz fun q hw TJ hy hz=>?_
   rw[q]
   have big:∀ {v:Nat},v<256->v<16 ^ 100:=fun h=>Nat.lt_trans h (by decide)
   have h2:(acc++[w*256+x]).length<1000000:=by rw[List.length_append];exact Nat.lt_trans (Nat.add_lt_add_right hl 1) (by decide)
   refine (S.seq (AR (v:=w*256+x) rfl (E.bin (x:=vi (w*256)) (y:=vi x) (E.bin (x:=vi w) (y:=vi 256) rfl rfl (NT (big hw))) rfl rfl) (Nat.lt_trans hl (by decide))) (S.one (AR (acc:=acc++[w*256+x]) (v:=y*256+z) rfl (E.bin (x:=vi (y*256)) (y:=vi z) (E.bin (x:=vi y) (y:=vi 256) rfl rfl (NT (big hy))) rfl rfl) h2))).trans ?_
   rw[List.append_assoc];rfl
  ·rw[if_neg h]
   have h0:(decide (aI p=[])||(!e||!decide (k+1=all.length)))=true:=by
    by_cases a:aI p=[]
    ·rw[decide_eq_true a];rfl
    ·rw[decide_eq_false a]
     cases e with
     | false=>rfl
     | true=>rw[decide_eq_false fun q=>h ⟨a,rfl,q⟩];rfl
   exact S.seq e1 (S.end ((S.cO (E.cmp (op:=.ge) (x:=.int (-1)) (y:=.int 0) rfl rfl rfl) rfl).trans (S.seq e2 (S.end ((S.aF hc h0).trans rfl)))))
theorem Jt {n:Nat}{T:Option V}{all:List (List Nat)}{e:Bool} (qS:∀ p∈all,(∀ c∈p,c<128)/\p.length<=520):∀ (rem pre:List (List Nat)) (acc:List Nat) (a b c:Option V),all=pre++rem->acc.length+2*rem.length<=5000->
  match bK rem e with
  | some g=>∃ a' b' c',dh 4 (ak (ae defs (n+1)) fC) ((List.range' pre.length rem.length).map vi) (zu T e acc all a b c)=.next (zu T e (acc++g) all a' b' c')
  | none=>dh 4 (ak (ae defs (n+1)) fC) ((List.range' pre.length rem.length).map vi) (zu T e acc all a b c)=.ret .none:=by
 intro z0
 induction z0 with
 | nil=>
  exact fun pre acc a b c O O=>⟨a,b,c,by rw[List.append_nil];rfl⟩
 | cons p r ih=>
  intro pre acc a b c hsplit Rh
  have hp:=qS p (by rw[hsplit];exact List.mem_append_right _ (.head _))
  have hk:all[pre.length]?=some p:=by rw[hsplit,List.getElem?_append_right (Nat.le_refl _),Nat.sub_self];rfl
  have hlen:pre.length+1=all.length↔r=[]:=by
   rw[hsplit,List.length_append,List.length_cons,<- Nat.add_assoc,Nat.add_right_comm]
   exact⟨fun q=>List.length_eq_zero_iff.mp (by omega),fun q=>by rw[q];rfl⟩
  rw[List.length_cons] at Rh
  have hb:=Gv (n:=n) (T:=T) (e:=e) hp.1 hp.2 hk (acc:=acc) (by omega) (b:=b) (c:=c)
  rw[fR]
  cases hv:aR p with
  | some v=>
   rw[hv] at hb
   have ih:=ih (pre++[p]) (acc++[v]) (some (vi pre.length)) (some (vi v)) c (by rw[hsplit,List.append_assoc];rfl) (by rw[List.length_append,List.length_singleton];omega)
   rw[List.length_append,List.length_singleton] at ih
   dsimp only
   cases hr:bK r e with
   | none=>rw[hr] at ih;exact F.cons hb ih
   | some g=>
    rw[hr] at ih
    dsimp only at ih
    rw[List.append_assoc] at ih
    exact ih.imp fun a' h=>h.imp fun b' h=>h.imp fun c' e=>F.cons hb e
  | none=>
   rw[hv] at hb
   dsimp only at hb ⊢
   by_cases hc:aI p≠[]/\e=true/\r=[]
   ·rw[if_pos ⟨hc.1,hc.2.1,hlen.mpr hc.2.2⟩] at hb
    rw[if_pos hc]
    refine b6 hc fun O O aw=>?_;try clear hc;subst aw
    exact⟨_,_,_,F.cons hb rfl⟩
   ·rw[if_neg fun q=>hc ⟨q.1,q.2.1,hlen.mp q.2.2⟩] at hb
    rw[if_neg hc]
    exact F.stop hb
noncomputable def a8 (t:List Nat) (e:Bool):Option (List Nat):=if t=[] then some [] else bK (ai 58 t) e
noncomputable def ov (o:Option (List Nat)):V:=match o with
 | some g=>.list (vl g)
 | none=>.none
theorem iA {c:Nat}:∀ (t:List Nat) (p:List Nat) (x:Nat),p∈ai c t->x∈p->x∈t:=by
 intro z0
 induction z0 with
 | nil=>
  intro p x h hx
  simp[fA,aT] at h;subst h;contradiction
 | cons y r ih=>
  intro p x h hx
  rw[aT] at h
  split at h
  ·rcases List.mem_cons.mp h with h | h
   ·subst h;contradiction
   ·exact .tail _ (ih p x h hx)
  ·refine bW (bU (c:=c) r) fun q qs e=>?_
   rw[e] at h
   dsimp only at h
   rcases List.mem_cons.mp h with h | h
   ·subst h
    rcases List.mem_cons.mp hx with hx | hx
    ·subst hx;exact .head _
    ·exact .tail _ (ih q x (by rw[e];exact .head _) hx)
   ·exact .tail _ (ih p x (by rw[e];exact .tail _ h) hx)
theorem vM {c:Nat}:∀ t:List Nat,(ai c t).length<=t.length+1:=by
 intro z0
 induction z0 with
 | nil=>exact  Nat.le_refl _
 | cons y r ih=>
  have:=ih
  refine bW (bU (c:=c) r) fun q qs e=>?_
  rw[aT]
  split
  ·simp;lia
  ·rw[e] at this ⊢
   simp at this ⊢;lia
theorem Ju (k:Nat):iq 0 (k:Int) 1=(List.range' 0 k).map vi:=by
 unfold iq
 rw[List.range_eq_range']
 have:(((k:Int) - 0).toNat+1 - 1) / 1=k:=by simp
 rw[this]
 apply List.map_congr_left
 intro x _
 show V.int _=V.int _
 congr 1
 lia
theorem fE {D:Fn->List V->R V}{p:PE}{J:Ρ}{k:Nat} (h:ao D p J=.ok (.int k)) (hk:k<=1000000):gI D (.sO (.const (.int 0)) p 1) J=.ok ((List.range' 0 k).map vi):=by
 refine f7 h (Gk ?_ (congrArg R.ok (Ju k)))
 exact Bool.and_eq_true_iff.mpr ⟨rfl,decide_eq_true (by rw[Int.natAbs_natCast];exact hk)⟩
theorem AU {n:Nat} (t:List Nat) (e:Bool) (ht:∀ c∈t,c<128) (hl:t.length<=520):ae defs (n+2) .lS [.str t,.bool e]=.ok (ov (a8 t e)):=by
 have XR:ao (ae defs (n+1)) (.cmp .eq (.loc 0) (.const (.str []))) [some (.str t),some (.bool e),none,none,none,none,none]=.ok (.bool (decide (t=[]))):=E.cmp (x:=.str t) (y:=.str []) rfl rfl (by rw[vI];rfl)
 unfold a8
 by_cases h0:t=[]
 ·rw[if_pos h0]
  exact S.val (p:=lX) (S.end ((S.aF XR (decide_eq_true h0)).trans rfl))
 ·rw[if_neg h0]
  have Jv:=vM (c:=58) t
  have hm:(ai 58 t).length<=1000:=Nat.le_trans Jv (Nat.le_trans (Nat.add_le_add_right hl 1) (by decide))
  have h:=Jt (n:=n) (T:=some (.str t)) (all:=ai 58 t) (e:=e) (fun p hp=>⟨fun c hc=>ht c (iA t p c hp hc),Nat.le_trans (eG t p hp) hl⟩) (ai 58 t) [] [] none none none rfl (by rw[List.length_nil,Nat.zero_add];exact Nat.le_trans (Nat.mul_le_mul_left 2 hm) (by decide))
  have go:∀ {z:SR},ak (ae defs (n+1)) tY (zu (some (.str t)) e [] (ai 58 t) none none none)=z->ak (ae defs (n+1)) lX [some (.str t),some (.bool e),none,none,none,none,none]=z:=fun h'=>
   S.seq (S.skip (XR.trans (b5 (decide_eq_false h0)))) (S.seq (S.own (l:=[]) rfl) (S.seq (S.assign (E.aH (x:=.str t) rfl rfl (E.one rfl) ((Gi t 58).trans (e8 (Nat.le_trans hl (by decide)) rfl)))) h'))
  have hf:bT (ae defs (n+1)) tX (zu (some (.str t)) e [] (ai 58 t) none none none)=_:=S.for (fE (k:=(ai 58 t).length) (E.prim (E.one rfl) (qN (by rw[List.length_map]))) (Nat.le_trans hm (by decide))) (by rw[List.length_map,List.length_range'];exact Nat.le_trans hm (by decide)) rfl
  rw[List.length_nil] at h
  cases hg:bK (ai 58 t) e with
  | none=>rw[hg] at h;exact S.val (p:=lX) (go (S.end (hf.trans h)))
  | some g=>rw[hg] at h;refine eR h fun a b c h=>?_;exact S.val (p:=lX) (go (S.seq (hf.trans h) (S.end (S.ret rfl))))
section
variable {α:Type}
theorem qV (s:List α) (a:Nat):cut s 0 (min a s.length)=s.take a:=by
 unfold cut
 rw[List.drop_zero,Nat.sub_zero]
 by_cases h:a<=s.length
 ·rw[Nat.min_eq_left h]
 ·rw[Nat.min_eq_right (by lia),List.take_length,List.take_of_length_le (by lia)]
theorem qW (s:List α) (a:Nat):cut s (min a s.length) s.length=s.drop a:=by
 unfold cut
 by_cases h:a<=s.length
 ·rw[Nat.min_eq_left h,List.take_of_length_le (by rw[List.length_drop];lia)]
 ·rw[Nat.min_eq_right (by lia),Nat.sub_self,List.take_zero,List.drop_eq_nil_of_le (by lia)]
theorem vN (s:List α) (a b:Nat) (Ws:a<=b):cut s (min a s.length) (min b s.length)=(s.drop a).take (b - a):=by
 unfold cut
 by_cases h:a<=s.length
 ·rw[Nat.min_eq_left h]
  by_cases h2:b<=s.length
  ·rw[Nat.min_eq_left h2]
  ·rw[Nat.min_eq_right (by lia),List.take_of_length_le (by rw[List.length_drop];lia),List.take_of_length_le (by rw[List.length_drop];lia)]
 ·rw[Nat.min_eq_right (by lia),Nat.min_eq_right (by lia),Nat.sub_self,List.take_zero,List.drop_eq_nil_of_le (by lia),List.take_nil]
theorem cC (n d a:Nat):bound n d (.int (a:Int))=some (min a n):=by
 unfold bound
 dsimp only
 rw[if_neg (by lia),Int.toNat_natCast]
end
theorem uh (s:List Nat) (a:Nat):aP (.str s) .none (.int a)=.ok (.str (s.take a)):=by
 unfold aP;dsimp only;rw[cC];dsimp only[bound];rw[qV]
theorem ui (s:List Nat) (a:Nat):aP (.bytes s) .none (.int a)=.ok (.bytes (s.take a)):=by
 unfold aP;dsimp only;rw[cC];dsimp only[bound];rw[qV]
theorem fF (s:List V) (a:Nat):aP (.list s) .none (.int a)=.ok (.list (s.take a)):=by
 unfold aP;dsimp only;rw[cC];dsimp only[bound];rw[qV]
theorem Gw (s:List Nat) (a:Nat):aP (.str s) (.int a) .none=.ok (.str (s.drop a)):=by
 unfold aP;dsimp only;rw[cC];dsimp only[bound];rw[qW]
theorem jS (s:List Nat) (a:Nat):aP (.bytes s) (.int a) .none=.ok (.bytes (s.drop a)):=by
 unfold aP;dsimp only;rw[cC];dsimp only[bound];rw[qW]
theorem fG (s:List V) (a:Nat):aP (.list s) (.int a) .none=.ok (.list (s.drop a)):=by
 unfold aP;dsimp only;rw[cC];dsimp only[bound];rw[qW]
theorem Jw (s:List Nat) (a b:Nat) (h:a<=b):aP (.str s) (.int a) (.int b)=.ok (.str ((s.drop a).take (b - a))):=by
 unfold aP;dsimp only;rw[cC,cC];dsimp only;rw[vN _ _ _ h]
theorem ml (s:List Nat) (a b:Nat) (h:a<=b):aP (.bytes s) (.int a) (.int b)=.ok (.bytes ((s.drop a).take (b - a))):=by
 unfold aP;dsimp only;rw[cC,cC];dsimp only;rw[vN _ _ _ h]
theorem Jx (s:List V) (a b:Nat) (h:a<=b):aP (.list s) (.int a) (.int b)=.ok (.list ((s.drop a).take (b - a))):=by
 unfold aP;dsimp only;rw[cC,cC];dsimp only;rw[vN _ _ _ h]
noncomputable def aX:Nat->List Nat->List Nat
 | _,[]=>[]
 | n,x::r=>if x=58/\r.head?=some 58 then n::aX (n+1) r else aX (n+1) r
theorem Jy:aX u1 []=([]):=rfl
theorem bR:aX n (x::r)=(if x=58/\r.head?=some 58 then n::aX (n+1) r else aX (n+1) r):=rfl
theorem take2 (x:Nat) (r:List Nat):((x::r).take 2=[58,58])↔x=58/\r.head?=some 58:=by
 cases r with
 | nil=>simp
 | cons y r=>simp
noncomputable def cutAt (t:List Nat):V->Bool
 | .int i=>decide ((t.drop i.toNat).take 2=[58,58])
 | _=>false
theorem xR:∀ (s pre:List Nat),((List.range' pre.length s.length).map vi).filter (cutAt (pre++s))=vl (aX pre.length s):=by
 intro z0
 induction z0 with
 | nil=>
  exact fun pre=>rfl
 | cons x r ih=>
  intro pre
  have ih:=ih (pre++[x])
  rw[List.length_append,List.length_singleton,List.append_assoc,List.singleton_append] at ih
  have e:cutAt (pre++x::r) (vi pre.length)=decide (x=58/\r.head?=some 58):=by
   unfold cutAt
   dsimp only
   rw[Int.toNat_natCast,List.drop_left']
   ·exact decide_eq_decide.mpr (take2 x r)
   ·rfl
  rw[List.length_cons,List.range'_succ,List.map_cons,List.filter_cons,bR,e,ih]
  by_cases h:x=58/\r.head?=some 58
  ·rw[if_pos h,if_pos (decide_eq_true h)];rfl
  ·rw[if_neg h,if_neg (by rw[decide_eq_false h];exact Bool.false_ne_true)]
noncomputable def bB (t:List Nat):Option (List Nat):=match aX 0 t with
 | []=>(match a8 t true with
  | some g=>if g.length=8 then some g else none
  | none=>none)
 | [a]=>(match a8 (t.take a) false,a8 (t.drop (a+2)) true with
  | some l,some r=>if l.length+r.length<=7 then some (l++List.replicate (8 - l.length - r.length) 0++r) else none
  | _,_=>none)
 | _=>none
theorem Gx (k:Nat):(List.replicate k [V.int 0]).flatten=vl (List.replicate k 0):=by
 induction k with
 | zero=>rfl
 | succ k ih=>rw[List.replicate_succ,List.flatten_cons,ih,List.replicate_succ];rfl
theorem vO {a b:List Nat} (h:a.length+b.length<=1000000):sP .add (.list (vl a)) (.list (vl b))=.ok (.list (vl (a++b))):=by
 rw[show vl (a++b)=vl a++vl b from List.map_append];exact e8 (show _<=lim by rw[List.length_map,List.length_map];exact h) rfl
theorem Gy {D:Fn->List V->R V}{J:Ρ}{l r:List Nat} (h3:ao D (.loc 3) J=.ok (.list (vl l))) (h4:ao D (.loc 4) J=.ok (.list (vl r))) (h7:l.length+r.length<=7):bT D t5 J=.ret (.list (vl (l++List.replicate (8 - l.length - r.length) 0++r))):=by
 have e1:ao D (.bin .sub (.bin .sub (.const (.int 8)) (.prim .len (.cons (.loc 3) .nil))) (.prim .len (.cons (.loc 4) .nil))) J=.ok (vi (8 - l.length - r.length)):=
  E.bin (x:=vi (8 - l.length)) (E.bin (x:=vi 8) rfl (E.s8 h3) (qN (Int.ofNat_sub (Nat.le_trans (Nat.le_add_right _ _) (Nat.le_trans h7 (by decide)))).symm)) (E.s8 h4) (qN (Int.ofNat_sub (by omega)).symm)
 have h8:8 - l.length - r.length<=8:=Nat.le_trans (Nat.sub_le _ _) (Nat.sub_le _ _)
 generalize 8 - l.length - r.length=k at e1 h8
 have e2:sP .mul (.list [.int 0]) (vi k)=.ok (.list (vl (List.replicate k 0))):=by
  show R.guard (decide (1=1)&&decide ((-1000:Int)<=(k:Int))&&decide ((k:Int)<=1000)) (R.ok (V.list (List.replicate (k:Int).toNat [V.int 0]).flatten))=_
  rw[decide_eq_true rfl,decide_eq_true (show (-1000:Int)<=(k:Int) from Int.le_trans (by decide) (Int.natCast_nonneg k)),decide_eq_true (show (k:Int)<=1000 from Int.ofNat_le.mpr (Nat.le_trans h8 (by decide))),Int.toNat_natCast,Gx];rfl
 refine S.ret (E.bin (E.bin h3 (E.bin rfl e1 e2) (vO ?_)) h4 (vO ?_))
 ·rw[List.length_replicate];exact Nat.le_trans (Nat.add_le_add (Nat.le_trans (Nat.le_add_right _ _) h7) h8) (by decide)
 ·rw[List.length_append,List.length_replicate];exact Nat.le_trans (Nat.add_le_add (Nat.add_le_add (Nat.le_trans (Nat.le_add_right _ _) h7) h8) (Nat.le_trans (Nat.le_add_left _ _) h7)) (by decide)
theorem vP {D:Fn->List V->R V}{J:Ρ}{i:Nat}{o:Option (List Nat)} (h:ao D (.loc i) J=.ok (ov o)):ao D (.cmp .is (.loc i) (.const .none)) J=.ok (.bool o.isNone):=E.cmp h rfl (by cases o<;>rfl)
theorem vQ {n:Nat} (t:List Nat) (ht:∀ c∈t,c<128) (hl:t.length<=520):ae defs (n+3) .gH [.str t]=.ok (ov (bB t)):=by
 have NF:t.length<=1000000:=Nat.le_trans hl (by decide)
 have e0:bT (ae defs (n+2)) tZ [some (.str t),none,none,none,none,none]=.next [some (.str t),some (.list (vl (aX 0 t))),none,none,none,none]:=by
  have hf:((List.range' 0 t.length).map vi).filter (cutAt t)=vl (aX 0 t):=xR t []
  rw[<- hf]
  refine S.assign (E.sel (fE (k:=t.length) (E.prim (E.one rfl) rfl) NF) (by rw[List.length_map,List.length_range'];exact NF) fun x hx=>?_)
  refine Exists.elim (List.mem_map.mp hx) fun k zz=>aC zz fun hk aw=>?_;clear zz;subst aw
  refine⟨E.cmp (x:=.str ((t.drop k).take 2)) (y:=.str [58,58]) (E.slice (l:=vi k) (h:=vi (k+2)) rfl rfl rfl rfl ?_) rfl (b5 ?_),rfl⟩
  ·have:=Jw t k (k+2) (Nat.le_add_right _ _)
   rwa [Nat.add_sub_cancel_left] at this
  ·unfold cutAt
   dsimp only
   rw[Int.toNat_natCast]
 have go:∀ {z:SR},ak (ae defs (n+2)) t8 [some (.str t),some (.list (vl (aX 0 t))),none,none,none,none]=z->ak (ae defs (n+2)) iw [some (.str t),none,none,none,none,none]=z:=fun h=>S.seq e0 h
 have c1:ao (ae defs (n+2)) (.cmp .gt (.prim .len (.cons (.loc 1) .nil)) (.const (.int 1))) [some (.str t),some (.list (vl (aX 0 t))),none,none,none,none]=.ok (.bool (decide (1<(aX 0 t).length))):=E.cmp (y:=vi 1) (E.s8 rfl) rfl (b5 (fP 1 _))
 have c0:ao (ae defs (n+2)) (.cmp .eq (.prim .len (.cons (.loc 1) .nil)) (.const (.int 0))) [some (.str t),some (.list (vl (aX 0 t))),none,none,none,none]=.ok (.bool (decide ((aX 0 t).length=0))):=E.cmp (y:=vi 0) (E.s8 rfl) rfl (b5 (e7 _ 0))
 unfold bB
 match Mj:aX 0 t with
 | a::b::r=>
  rw[Mj] at go c1
  exact S.val (p:=iw) (go (S.end ((S.aF c1 (decide_eq_true (Nat.succ_lt_succ (Nat.succ_pos _)))).trans rfl)))
 | []=>
  rw[Mj] at go c1 c0
  have hs:=AU (n:=n) t true ht hl
  have go2:∀ {v:V},ak (ae defs (n+2)) (.cons (.ite (.or (.cmp .is (.loc 2) (.const .none)) (.cmp .ne (.prim .len (.cons (.loc 2) .nil)) (.const (.int 8)))) (.cons (.ret (.const .none)) .nil) .nil) (.cons (.ret (.loc 2)) .nil)) [some (.str t),some (.list []),some (ov (a8 t true)),none,none,none]=.ret v->(ak (ae defs (n+2)) iw [some (.str t),none,none,none,none,none]).value=.ok v:=fun h=>
   S.val (p:=iw) (go (S.seq (S.skip c1) (S.end ((S.aF c0 rfl).trans (S.seq (S.assign (E.call (E.two rfl rfl) hs)) h)))))
  cases hq:a8 t true with
  | none=>rw[hq] at go2;exact go2 rfl
  | some g=>
   rw[hq] at go2
   have c8:ao (ae defs (n+2)) (.or (.cmp .is (.loc 2) (.const .none)) (.cmp .ne (.prim .len (.cons (.loc 2) .nil)) (.const (.int 8)))) [some (.str t),some (.list []),some (.list (vl g)),none,none,none]=.ok (.bool (false||!decide (g.length=8))):=C.or (vP (o:=some g) rfl) (E.cmp (op:=.ne) (y:=vi 8) (E.s8 rfl) rfl (b5 (congrArg Bool.not (e7 _ 8))))
   dsimp only
   by_cases h8:g.length=8
   ·rw[if_pos h8];exact go2 (S.seq (S.skip (c8.trans (b5 (by rw[decide_eq_true h8];rfl)))) (S.end (S.ret rfl)))
   ·rw[if_neg h8];exact go2 (S.end ((S.aF c8 (by rw[decide_eq_false h8];rfl)).trans rfl))
 | [a]=>
  rw[Mj] at go c1 c0
  have YX:=AU (n:=n) (t.take a) false (fun c hc=>ht c (List.mem_of_mem_take hc)) (Nat.le_trans (by rw[List.length_take];exact Nat.min_le_right _ _) hl)
  have YY:=AU (n:=n) (t.drop (a+2)) true (fun c hc=>ht c (List.mem_of_mem_drop hc)) (Nat.le_trans (by rw[List.length_drop];exact Nat.sub_le _ _) hl)
  have go2:∀ {v:V},ak (ae defs (n+2)) t7 [some (.str t),some (.list (vl [a])),none,some (ov (a8 (t.take a) false)),some (ov (a8 (t.drop (a+2)) true)),none]=.ret v->(ak (ae defs (n+2)) iw [some (.str t),none,none,none,none,none]).value=.ok v:=fun h=>
   S.val (p:=iw) (go (S.seq (S.skip c1) (S.seq (S.skip c0) (S.seq (S.assign (E.call (E.two (E.slice (l:=.none) (h:=vi a) rfl rfl rfl rfl (uh t a)) rfl) YX)) (S.seq (S.assign (E.call (E.two (E.slice (l:=vi (a+2)) (h:=.none) rfl rfl rfl rfl (Gw t (a+2))) rfl) YY)) h)))))
  dsimp only
  cases q1:a8 (t.take a) false with
  | none=>rw[q1] at go2;exact go2 rfl
  | some l=>
   rw[q1] at go2
   cases q2:a8 (t.drop (a+2)) true with
   | none=>rw[q2] at go2;exact go2 rfl
   | some r=>
    rw[q2] at go2
    have c7:ao (ae defs (n+2)) (.or (.cmp .is (.loc 3) (.const .none)) (.or (.cmp .is (.loc 4) (.const .none)) (.cmp .gt (.bin .add (.prim .len (.cons (.loc 3) .nil)) (.prim .len (.cons (.loc 4) .nil))) (.const (.int 7))))) [some (.str t),some (.list (vl [a])),none,some (.list (vl l)),some (.list (vl r)),none]=.ok (.bool (false||(false||decide (7<l.length+r.length)))):=
     C.or (vP (o:=some l) rfl) (C.or (vP (o:=some r) rfl) (E.cmp (x:=vi (l.length+r.length)) (y:=vi 7) (E.bin (E.s8 rfl) (E.s8 rfl) rfl) rfl (b5 (fP 7 _))))
    dsimp only
    by_cases h7:l.length+r.length<=7
    ·rw[if_pos h7];exact go2 (S.seq (S.skip (c7.trans (b5 (by rw[decide_eq_false (Nat.not_lt.mpr h7)];rfl)))) (S.end (Gy rfl rfl h7)))
    ·rw[if_neg h7];exact go2 (S.end ((S.aF c7 (by rw[decide_eq_true (Nat.lt_of_not_le h7)];rfl)).trans rfl))
theorem p7 {n:Nat} (b:List Nat) (hb:∀ x∈b,x<256):ae defs (n+1) .fi [.bytes b]=if b.length=4 then .ok (.str (bQ b)) else .exc .syntax:=by
 show (ak (ae defs n) CM [some (.bytes b)]).value=_
 have au:ao (ae defs n) (.cmp .ne (.prim .len (.cons (.loc 0) .nil)) (.const (.int 4))) [some (.bytes b)]=.ok (.bool !decide (b.length=4)):=E.neN (x:=b.length) (y:=4) rfl rfl
 by_cases h4:b.length=4
 ·rw[if_pos h4]
  refine S.val (S.seq (S.skip (au.trans (b5 (by rw[decide_eq_true h4];rfl)))) (S.end (S.ret ?_)))
  clear au
  revert hb
  refine Mo h4 fun w x y z hb=>?_
  have num:∀ {e:PE}{v:Nat}{r:CJ}{u:List Nat},v<256->ao (ae defs n) e [some (.bytes [w,x,y,z])]=.ok (vi v)->gJ (ae defs n) r [some (.bytes [w,x,y,z])]=.ok u->gJ (ae defs n) (.cons e .plain r) [some (.bytes [w,x,y,z])]=.ok (bI v++u):=fun hv h hr=>
   qO h (e8 (gN (Nat.lt_trans hv (by decide))) rfl) (Nat.le_trans (ji (Nat.lt_trans hv (by decide))) (by decide)) hr
  have dot:∀ {r:CJ}{u:List Nat},gJ (ae defs n) r [some (.bytes [w,x,y,z])]=.ok u->gJ (ae defs n) (.cons (.const (.str [46])) .plain r) [some (.bytes [w,x,y,z])]=.ok ([46]++u):=fun hr=>qO rfl rfl (by decide) hr
  refine f7 (num (hb w (.head _)) rfl (dot (num (hb x (.tail _ (.head _))) rfl (dot (num (hb y (.tail _ (.tail _ (.head _)))) rfl (dot (num (hb z (.tail _ (.tail _ (.tail _ (.head _))))) rfl rfl))))))) ?_
  show R.ok (V.str _)=R.ok (V.str ((bI w++[46])++((bI x++[46])++((bI y++[46])++bI z))))
  rw[List.append_assoc,List.append_assoc,List.append_assoc,List.append_nil]
 ·rw[if_neg h4]
  exact S.k6 (S.fu ((S.aF au (by rw[decide_eq_false h4];rfl)).trans rfl))
noncomputable def jl:List Nat->Option (List Nat × List Nat)
 | []=>none
 | x::r=>match jl r with
  | some (m,q)=>some (x::m,q)
  | none=>if x=58 then some ([],r) else none
theorem qX:jl (x::r)=(match jl r with
  | some (m,q)=>some (x::m,q)
  | none=>if x=58 then some ([],r) else none):=rfl
set_option tactic.hygienic true in
theorem qY:∀ {t:List Nat},jl t=none->58∉t:=by
 intro z0
 induction z0 with
 | nil=>
  intro _
  simp
 | cons x r ih=>
  intro h
  rw[qX] at h
  split at h
  ·contradiction
  ·rename_i q
   split at h
   ·contradiction
   ·rename_i hx
    intro hm
    rcases List.mem_cons.mp hm with e | e
    ·exact hx e.symm
    ·exact ih q e
set_option tactic.hygienic true in
theorem k9:∀ {t m q:List Nat},jl t=some (m,q)->t=m++58::q/\58∉q:=by
 intro z0
 induction z0 with
 | nil=>
  intro _ _ h
  contradiction
 | cons x r ih=>
  intro m q h
  rw[qX] at h
  split at h
  ·rename_i m' q' e
   cases h
   obtain⟨e1,e2⟩:=ih e
   exact⟨by rw[e1];rfl,e2⟩
  ·rename_i e
   split at h
   ·rename_i hx
    cases h
    exact⟨by rw[hx];rfl,qY e⟩
   ·contradiction
theorem AV:∀ (t:List Nat) (n:Nat) (best:Int),ik 58 t n best=match jl t with
  | some (m,_)=>((n+m.length:Nat):Int)
  | none=>best:=by
 intro z0
 induction z0 with
 | nil=>
  exact fun n best=>rfl
 | cons x r ih=>
  intro n best
  rw[tH,ih,qX]
  cases h:jl r with
  | some mq=>obtain⟨m,q⟩:=mq;dsimp only;rw[List.length_cons];congr 1;omega
  | none=>
   dsimp only
   by_cases hx:x=58
   ·rw[if_pos hx,if_pos hx];simp
   ·rw[if_neg hx,if_neg hx]
abbrev qZ (q:List Nat):Prop:=(ai 46 q).length=4/\∀ p∈ai 46 q,(!p.isEmpty&&p.all aO)=true
noncomputable def Ri (t:List Nat):Option (List Nat × List Nat):=match jl t with
 | some (m,q)=>if qZ q then some (m,q) else none
 | none=>none
noncomputable def XS (o:Option (List Nat × List Nat)):V:=match o with
 | some (m,q)=>.tuple [.bytes m,.bytes q]
 | none=>.none
theorem Rj {D:Fn->List V->R V}{T B P:Option V} (ps:List (List Nat)) (o:Option V) :
  ((ps.all fun p=>!p.isEmpty&&p.all aO)=true/\∃ o',dh 3 (ak D nz) (ps.map V.bytes) [T,B,P,o]=.next [T,B,P,o'])∨((ps.all fun p=>!p.isEmpty&&p.all aO)=false/\dh 3 (ak D nz) (ps.map V.bytes) [T,B,P,o]=.ret .none):=by
 have hd:∀ p:List Nat,ao D (.not (.aH .isdigit (.loc 3) .nil)) [T,B,P,some (.bytes p)]=.ok (.bool !(!p.isEmpty&&p.all aO)):=fun p=>E.not (x:=.bool (!p.isEmpty&&p.all aO)) (E.aH rfl rfl rfl rfl) rfl
 exact F.scan (C:=fun o=>[T,B,P,o]) (Z:=fun s=>s=.ret .none) (fun O O=>rfl) (fun s k h=>h ▸ rfl) (fun p h=>S.one (S.skip ((hd p).trans (b5 (congrArg (!·) h))))) (fun p h=>S.end ((S.aF (hd p) (congrArg (!·) h)).trans rfl)) ps o
theorem Gz {t:List Nat} (h:10∉t):([10]:List Nat).isSuffixOf t=false:=by
 rw[Bool.eq_false_iff]
 intro q
 rw[List.isSuffixOf_iff_suffix] at q
 refine Exists.elim q fun s e=>?_
 exact h (by rw[<- e];simp)
theorem Wt {n:Nat} (t:List Nat) (hn:10∉t) (hl:t.length<=520):ae defs (n+1) .qh [.bytes t]=.ok (XS (Ri t)):=by
 show (ak (ae defs n) CN [some (.bytes t),none,none,none]).value=_
 have s0:bT (ae defs n) tN [some (.bytes t),none,none,none]=.next [some (.bytes t),none,none,none]:=S.skip (E.aH rfl rfl rfl (b5 (Gz hn)))
 have s9:∀ {J:Ρ},ao (ae defs n) (.loc 0) J=.ok (.bytes t)->ao (ae defs n) (.cmp .isIn (.const (.bytes [10])) (.loc 0)) J=.ok (.bool false):=fun h=>E.cmp rfl h (b5 (Bool.eq_false_iff.mpr fun q=>hn (List.contains_iff_mem.mp q)))
 have j9:∀ s:List Nat,s.length<=t.length->s.length<=lim:=fun s h=>Nat.le_trans h (Nat.le_trans hl (by decide))
 have hr:=AV t 0 (-1)
 unfold Ri
 cases hL:jl t with
 | none=>
  rw[hL] at hr
  exact S.val (S.seq s0 (S.seq (S.assign (v:=.int (-1)) (E.aH rfl rfl rfl (congrArg (fun z=>R.ok (V.int z)) hr))) (S.seq (S.assign (E.aH (E.slice rfl (E.bin rfl rfl rfl) rfl rfl (jS t 0)) rfl rfl (e8 (j9 t (Nat.le_refl _)) rfl))) (S.end ((S.aF (E.Rf (x:=.bool true) rfl rfl) rfl).trans rfl)))))
 | some mq=>
  obtain⟨m,q⟩:=mq
  rw[hL] at hr
  refine aC (k9 hL) fun e1 e2=>?_
  have hr:ik 58 t 0 (-1)=(m.length:Int):=hr.trans (congrArg (fun k:Nat=>(k:Int)) (Nat.zero_add _))
  have hd:t.drop (m.length+1)=q:=by rw[e1,<- List.drop_drop,List.drop_left,List.drop_one,List.tail_cons]
  have ht:t.take m.length=m:=by rw[e1,List.take_left]
  have YZ:q.length<=t.length:=by rw[e1,List.length_append,List.length_cons];exact Nat.le_trans (Nat.le_succ _) (Nat.le_add_left _ _)
  have TK:aP (.bytes t) (.int ((m.length+1:Nat):Int)) .none=.ok (.bytes q):=hd ▸ jS t _
  have gh:aP (.bytes t) .none (.int (m.length:Int))=.ok (.bytes m):=(ui t _).trans (by rw[ht])
  have s1:bT (ae defs n) tO [some (.bytes t),none,none,none]=.next [some (.bytes t),some (vi m.length),none,none]:=S.assign (E.aH rfl rfl rfl (congrArg (fun z=>R.ok (V.int z)) hr))
  have s2:bT (ae defs n) tP [some (.bytes t),some (vi m.length),none,none]=.next [some (.bytes t),some (vi m.length),some (.list ((ai 46 q).map V.bytes)),none]:=S.assign (E.aH (E.slice rfl (E.bin rfl rfl rfl) rfl rfl TK) rfl rfl (e8 (j9 q YZ) rfl))
  have c3:ao (ae defs n) (.or (.cmp .lt (.loc 1) (.const (.int 0))) (.or (.cmp .isIn (.const (.bytes [10])) (.loc 0)) (.cmp .ne (.prim .len (.cons (.loc 2) .nil)) (.const (.int 4))))) [some (.bytes t),some (vi m.length),some (.list ((ai 46 q).map V.bytes)),none]=.ok (.bool !decide ((ai 46 q).length=4)):=
   E.NB (E.cmp rfl rfl (b5 (decide_eq_false (Int.not_lt.mpr (Int.natCast_nonneg _))))) rfl (E.NB (s9 rfl) rfl (E.neN (y:=4) (E.Jj rfl) rfl))
  dsimp only
  by_cases h4:(ai 46 q).length=4
  ·have s3:bT (ae defs n) tQ [some (.bytes t),some (vi m.length),some (.list ((ai 46 q).map V.bytes)),none]=.next [some (.bytes t),some (vi m.length),some (.list ((ai 46 q).map V.bytes)),none]:=S.skip (c3.trans (b5 (by rw[decide_eq_true h4];rfl)))
   have hlen:((ai 46 q).map V.bytes).length<=lim:=by rw[List.length_map,h4];decide
   rcases Rj (D:=ae defs n) (T:=some (.bytes t)) (B:=some (vi m.length)) (P:=some (.list ((ai 46 q).map V.bytes))) (ai 46 q) none with ⟨ha,o',e⟩ | ⟨ha,e⟩
   ·rw[if_pos ⟨h4,List.all_eq_true.mp ha⟩]
    exact S.val (S.seq s0 (S.seq s1 (S.seq s2 (S.seq s3 (S.seq (S.for rfl hlen e) (S.end (S.ret (E.tup (E.two (E.slice rfl rfl rfl rfl gh) (E.slice rfl (E.bin rfl rfl rfl) rfl rfl TK))))))))))
   ·rw[if_neg fun z=>Bool.false_ne_true (ha.symm.trans (List.all_eq_true.mpr z.2))]
    exact S.val (S.seq s0 (S.seq s1 (S.seq s2 (S.seq s3 (S.end (S.for rfl hlen e))))))
  ·rw[if_neg fun z=>h4 z.1]
   exact S.val (S.seq s0 (S.seq s1 (S.seq s2 (S.end ((S.aF c3 (by rw[decide_eq_false h4];rfl)).trans rfl)))))
noncomputable def lg (c:List Nat):List Nat:=List.replicate (4 - c.length) 48++c
noncomputable def cP (l:Nat):List (List Nat)->Bool->List (List Nat)->Option (List (List Nat) × Bool)
 | [],seen,acc=>some (acc,seen)
 | c::r,seen,acc=>if c=[] then (if seen=true then none else cP l r true (acc++List.replicate (9 - l) [48,48,48,48])) else if 4<c.length then none else cP l r seen (acc++[lg c])
theorem dk {l:Nat}:cP l (c::r) seen acc=(if c=[] then (if seen=true then none else cP l r true (acc++List.replicate (9 - l) [48,48,48,48])) else if 4<c.length then none else cP l r seen (acc++[lg c])):=rfl
noncomputable abbrev vb (l:List (List Nat)):List V:=l.map V.bytes
theorem GA {D:Fn->List V->R V}{T I x2 x3 x4 M B x7 x8 cK dw cU dP dM dx:Option V}:∀ (m s:Nat) (acc:List (List Nat)) (cG:Option V),acc.length+m<=1000->
  ∃ o,dh 11 (ak D tR) ((List.range' s m).map vi) [T,I,x2,x3,x4,M,B,x7,x8,some (.list (vb acc)),dx,cG,cK,dw,cU,dP,dM] =
   .next [T,I,x2,x3,x4,M,B,x7,x8,some (.list (vb (acc++List.replicate m [48,48,48,48]))),dx,o,cK,dw,cU,dP,dM]:=by
 intro z0
 induction z0 with
 | zero=>
  exact fun s acc cG O=>⟨cG,by rw[List.replicate_zero,List.append_nil];rfl⟩
 | succ m ih=>
  intro s acc cG h
  obtain⟨o,e⟩:=ih (s+1) (acc++[[48,48,48,48]]) (some (vi s)) (by rw[List.length_append,Nat.add_assoc,Nat.add_comm _ m];exact h)
  rw[List.append_assoc] at e
  exact⟨o,F.cons (S.one (S.Gm (l:=acc) (v:=[48,48,48,48]) rfl rfl (Nat.lt_of_lt_of_le (Nat.lt_add_of_pos_right (Nat.succ_pos m)) (Nat.le_trans h (by decide))))) e⟩
theorem GB {D:Fn->List V->R V}{p:PE}{J:Ρ}{k:Int} (h:ao D p J=.ok (.int k)) (hk:k.natAbs<=1000000):gI D (.sO (.const (.int 0)) p 1) J=.ok ((List.range' 0 k.toNat).map vi):=by
 refine f7 h ?_
 dsimp only
 rw[R.guard,if_pos]
 ·unfold iq
  rw[List.range_eq_range']
  have:((k - 0).toNat+1 - 1) / 1=k.toNat:=by simp
  rw[this]
  congr 1
  apply List.map_congr_left
  intro x _
  show V.int _=V.int _
  congr 1
  lia
 ·simp only[Bool.and_eq_true,decide_eq_true_eq]
  exact⟨⟨.inl trivial,by decide⟩,hk⟩
theorem NW {D:Fn->List V->R V}{J:Ρ}{c:List Nat} (oX:ao D (.loc 10) J=.ok (.bytes c)) (Y0:ao D (.loc 12) J=.ok (vi c.length)) (h4:c.length<=4):ao D (.bin .add (.bin .mul (.const (.bytes [48])) (.bin .sub (.const (.int 4)) (.loc 12))) (.loc 10)) J=.ok (.bytes (lg c)):=by
 have e1:ao D (.bin .sub (.const (.int 4)) (.loc 12)) J=.ok (vi (4 - c.length)):=E.bin (x:=vi 4) rfl Y0 (qN (Int.ofNat_sub h4).symm)
 have hk:4 - c.length<=4:=Nat.sub_le _ _
 have e2:sP .mul (.bytes [48]) (vi (4 - c.length))=.ok (.bytes (List.replicate (4 - c.length) 48)):=by
  generalize 4 - c.length=k at hk
  show R.guard (decide (1=1)&&decide ((-1000:Int)<=(k:Int))&&decide ((k:Int)<=1000)) (R.ok (V.bytes (List.replicate (k:Int).toNat [48]).flatten))=_
  rw[decide_eq_true rfl,decide_eq_true (show (-1000:Int)<=(k:Int) from Int.le_trans (by decide) (Int.natCast_nonneg k)),decide_eq_true (show (k:Int)<=1000 from Int.ofNat_le.mpr (Nat.le_trans hk (by decide))),Int.toNat_natCast]
  have:(List.replicate k ([48]:List Nat)).flatten=List.replicate k 48:=by
   clear hk
   induction k with
   | zero=>rfl
   | succ k ih=>rw[List.replicate_succ,List.flatten_cons,ih,List.replicate_succ];rfl
  rw[this];rfl
 exact E.bin (E.bin rfl e1 e2) oX (e8 (show _<=lim by rw[List.length_replicate];exact Nat.le_trans (Nat.add_le_add hk h4) (by decide)) rfl)
theorem AW {D:Fn->List V->R V}{T I x2 x3 M B x7 cG cK dw cU dP dM:Option V}{l:Nat} (hl:l<=8) {c:List Nat}{seen:Bool}{acc:List (List Nat)} (ha:acc.length<=990):match cP l [c] seen acc with
  | some (ds,s')=>∃ a b d,ak D gK [T,I,x2,x3,some (vi l),M,B,x7,some (.bool seen),some (.list (vb acc)),some (.bytes c),cG,cK,dw,cU,dP,dM]=.next [T,I,x2,x3,some (vi l),M,B,x7,some (.bool s'),some (.list (vb ds)),a,b,d,dw,cU,dP,dM]
  | none=>∃ J,ak D gK [T,I,x2,x3,some (vi l),M,B,x7,some (.bool seen),some (.list (vb acc)),some (.bytes c),cG,cK,dw,cU,dP,dM]=.exc .syntax J:=by
 rw[dk]
 by_cases h0:c=[]
 ·subst h0
  rw[if_pos rfl]
  cases seen with
  | true=>exact⟨_,rfl⟩
  | false=>
   rw[if_neg Bool.false_ne_true]
   obtain⟨o,ez⟩:=GA (D:=D) (T:=T) (I:=I) (x2:=x2) (x3:=x3) (x4:=some (vi l)) (M:=M) (B:=B) (x7:=x7) (x8:=some (.bool true)) (cK:=cK) (dw:=dw) (cU:=cU) (dP:=dP) (dM:=dM) (dx:=some (.bytes [])) (9 - l) 0 acc cG (Nat.le_trans (Nat.add_le_add ha (Nat.sub_le _ _)) (by decide))
   have h9:(8:Int) - (l:Int)+1=((9 - l:Nat):Int):=by lia
   refine⟨_,o,_,S.last.trans ((S.aF rfl rfl).trans (S.seq (S.skip rfl) (S.seq (S.assign rfl) (S.one (S.for (fE (k:=9 - l) (E.bin (x:=.int ((8:Int) - (l:Int))) (y:=.int 1) rfl rfl (qN h9)) (Nat.le_trans (Nat.sub_le _ _) (by decide))) (by rw[List.length_map,List.length_range'];exact Nat.le_trans (Nat.sub_le _ _) (by decide)) ez)))))⟩
 ·rw[if_neg h0]
  have hc:∀ {cG:Option V},ao D (.cmp .eq (.loc 10) (.const (.bytes []))) [T,I,x2,x3,some (vi l),M,B,x7,some (.bool seen),some (.list (vb acc)),some (.bytes c),cG,cK,dw,cU,dP,dM]=.ok (.bool (decide (c=[]))):=E.cmp (x:=.bytes c) (y:=.bytes []) rfl rfl (by rw[vI];rfl)
  have e1:bT D (.assign 12 (.prim .len (.cons (.loc 10) .nil))) [T,I,x2,x3,some (vi l),M,B,x7,some (.bool seen),some (.list (vb acc)),some (.bytes c),cG,cK,dw,cU,dP,dM]=.next [T,I,x2,x3,some (vi l),M,B,x7,some (.bool seen),some (.list (vb acc)),some (.bytes c),cG,some (vi c.length),dw,cU,dP,dM]:=S.assign (E.prim (E.one rfl) rfl)
  have c4:ao D (.cmp .gt (.loc 12) (.const (.int 4))) [T,I,x2,x3,some (vi l),M,B,x7,some (.bool seen),some (.list (vb acc)),some (.bytes c),cG,some (vi c.length),dw,cU,dP,dM]=.ok (.bool (decide (4<c.length))):=E.cmp (x:=vi c.length) (y:=vi 4) rfl rfl (b5 (fP 4 _))
  by_cases h4:4<c.length
  ·rw[if_pos h4]
   exact⟨_,S.last.trans ((S.cO hc (decide_eq_false h0)).trans (S.seq e1 (S.fu ((S.aF c4 (decide_eq_true h4)).trans rfl))))⟩
  ·rw[if_neg h4]
   have hle:=Nat.le_of_not_lt h4
   have e2:bT D (.ite (.cmp .ne (.loc 12) (.const (.int 4))) (.cons (.assign 10 (.bin .add (.bin .mul (.const (.bytes [48])) (.bin .sub (.const (.int 4)) (.loc 12))) (.loc 10))) .nil) .nil) [T,I,x2,x3,some (vi l),M,B,x7,some (.bool seen),some (.list (vb acc)),some (.bytes c),cG,some (vi c.length),dw,cU,dP,dM] =
     .next [T,I,x2,x3,some (vi l),M,B,x7,some (.bool seen),some (.list (vb acc)),some (.bytes (lg c)),cG,some (vi c.length),dw,cU,dP,dM]:=by
    have XT:ao D (.cmp .ne (.loc 12) (.const (.int 4))) [T,I,x2,x3,some (vi l),M,B,x7,some (.bool seen),some (.list (vb acc)),some (.bytes c),cG,some (vi c.length),dw,cU,dP,dM]=.ok (.bool !decide (c.length=4)):=E.cmp (x:=vi c.length) (y:=vi 4) rfl rfl (b5 (congrArg Bool.not (e7 _ 4)))
    by_cases Wu:c.length=4
    ·rw[S.skip (XT.trans (b5 (by rw[decide_eq_true Wu];rfl))),show lg c=c by unfold lg;rw[Wu];rfl]
    ·exact (S.aF XT (by rw[decide_eq_false Wu];rfl)).trans (S.one (S.assign (NW rfl rfl hle)))
   exact⟨_,_,_,S.last.trans ((S.cO hc (decide_eq_false h0)).trans (S.seq e1 (S.seq (S.skip (c4.trans (b5 (decide_eq_false h4)))) (S.seq e2 (S.one (S.Gm (l:=acc) (v:=lg c) rfl rfl (Nat.lt_of_le_of_lt ha (by decide))))))))⟩
theorem xS (l:Nat) (c:List Nat) (r:List (List Nat)) (seen:Bool) (acc:List (List Nat)):cP l (c::r) seen acc=(cP l [c] seen acc).bind fun x=>cP l r x.2 x.1:=by
 rw[dk,dk]
 split
 ·split<;>rfl
 ·split<;>rfl
theorem AX {l:Nat}{c:List Nat}{seen s':Bool}{acc ds:List (List Nat)} (h:cP l [c] seen acc=some (ds,s')):ds.length<=acc.length+9:=by
 rw[dk] at h
 split at h
 ·split at h
  ·contradiction
  ·cases h;rw[List.length_append,List.length_replicate];exact Nat.add_le_add_left (Nat.sub_le _ _) _
 ·split at h
  ·contradiction
  ·cases h;rw[List.length_append];exact Nat.add_le_add_left (show (1:Nat)<=9 by decide) _
theorem GC {D:Fn->List V->R V}{T I x2 x3 M B x7 dw cU dP dM:Option V}{l:Nat} (hl:l<=8):∀ (cs:List (List Nat)) (seen:Bool) (acc:List (List Nat)) (dx cG cK:Option V),acc.length+10*cs.length<=1000->
  match cP l cs seen acc with
  | some (ds,s')=>∃ a b c,dh 10 (ak D gK) (vb cs) [T,I,x2,x3,some (vi l),M,B,x7,some (.bool seen),some (.list (vb acc)),dx,cG,cK,dw,cU,dP,dM] =
    .next [T,I,x2,x3,some (vi l),M,B,x7,some (.bool s'),some (.list (vb ds)),a,b,c,dw,cU,dP,dM]
  | none=>∃ J,dh 10 (ak D gK) (vb cs) [T,I,x2,x3,some (vi l),M,B,x7,some (.bool seen),some (.list (vb acc)),dx,cG,cK,dw,cU,dP,dM]=.exc .syntax J:=by
 intro z0
 induction z0 with
 | nil=>
  exact fun seen acc dx cG cK O=>⟨_,_,_,rfl⟩
 | cons c r ih=>
  intro seen acc dx cG cK h
  rw[List.length_cons] at h
  have ht:=AW (D:=D) (T:=T) (I:=I) (x2:=x2) (x3:=x3) (M:=M) (B:=B) (x7:=x7) (cG:=cG) (cK:=cK) (dw:=dw) (cU:=cU) (dP:=dP) (dM:=dM) hl (c:=c) (seen:=seen) (acc:=acc) (by omega)
  rw[xS]
  cases q:cP l [c] seen acc with
  | none=>
   rw[q] at ht
   exact ht.imp fun J e=>F.P4 e
  | some p=>
   obtain⟨ds,s'⟩:=p
   rw[q] at ht
   refine eR ht fun a b d e=>?_
   have hds:=AX q
   have ih:=ih s' ds a b d (by omega)
   rw[Option.bind_some]
   cases q2:cP l r s' ds with
   | none=>rw[q2] at ih;exact ih.imp fun J e'=>F.cons e e'
   | some p2=>rw[q2] at ih;exact ih.imp fun x h=>h.imp fun y h=>h.imp fun z e'=>F.cons e e'
theorem NX {c:Nat} (h:c<128):bq .find [iP,.bytes [kX c]]=.ok (.int (match cn c with | some d=>(d:Int) | none=>-1)):=by
 have:∀ c:Fin 128,findAt [kX c.1] [48,49,50,51,52,53,54,55,56,57,97,98,99,100,101,102] 0=(match cn c.1 with | some d=>(d:Int) | none=>-1):=by decide +kernel
 have:=this ⟨c,h⟩
 show R.ok (V.int (findAt [kX c] [48,49,50,51,52,53,54,55,56,57,97,98,99,100,101,102] 0))=_
 rw[this]
noncomputable def di:List Nat->Option (List Nat)
 | a::b::r=>match cn a,cn b with
  | some h,some l=>(di r).map fun g=>(h*16+l)::g
  | _,_=>none
 | _=>some []
theorem xT:di []=some []:=rfl
theorem jT:di (a::b::r)=(match cn a,cn b with
  | some h,some l=>(di r).map fun g=>(h*16+l)::g
  | _,_=>none):=rfl
theorem Jz {D:Fn->List V->R V}{J:Ρ}{e:PE}{c:Nat} (hc:c<128) (h:ao D e J=.ok (.bytes [c])):ao D (.aH .find (.glob iP) (.cons (.aH .lower e .nil) .nil)) J=.ok (.int (match cn c with | some d=>(d:Int) | none=>-1)):=
 E.aH rfl rfl (E.one (E.aH h rfl rfl rfl)) (NX hc)
theorem JA {D:Fn->List V->R V}{T I x3 x4 M B x7 x8 x9 dx cG cK dP dM:Option V}{bt acc:List Nat}{k a b:Nat} (ha:a<128) (hb:b<128) (h2:(bt.drop k).take 2=[a,b]) (hl:acc.length<1000000):match di [a,b] with
  | some g=>∃ y z,ak D gL [T,I,some (.bytes bt),x3,x4,M,B,x7,x8,x9,dx,cG,cK,some (.cj acc),some (vi k),dP,dM]=.next [T,I,some (.bytes bt),x3,x4,M,B,x7,x8,x9,dx,cG,cK,some (.cj (acc++g)),some (vi k),y,z]
  | none=>∃ J,ak D gL [T,I,some (.bytes bt),x3,x4,M,B,x7,x8,x9,dx,cG,cK,some (.cj acc),some (vi k),dP,dM]=.exc .syntax J:=by
 have t1:(bt.drop k).take 1=[a]:=by
  have:=congrArg (List.take 1) h2
  rwa [List.take_take] at this
 have t2:(bt.drop (k+1)).take 1=[b]:=by
  have:=congrArg (List.drop 1) h2
  rwa [List.drop_take,List.drop_drop] at this
 have s1:aP (.bytes bt) (vi k) (vi (k+1))=.ok (.bytes [a]):=by rw[ml bt k (k+1) (Nat.le_succ k),Nat.add_sub_cancel_left,t1]
 have s2:aP (.bytes bt) (vi (k+1)) (vi (k+2))=.ok (.bytes [b]):=by rw[ml bt (k+1) (k+2) (Nat.le_succ (k+1)),Nat.add_sub_add_left,t2]
 have e1:∀ {z:Int},(match cn a with | some d=>(d:Int) | none=>-1)=z->bT D (.assign 15 (.aH .find (.glob iP) (.cons (.aH .lower (.slice (.loc 2) (.loc 14) (.bin .add (.loc 14) (.const (.int 1)))) .nil) .nil))) [T,I,some (.bytes bt),x3,x4,M,B,x7,x8,x9,dx,cG,cK,some (.cj acc),some (vi k),dP,dM] =
   .next [T,I,some (.bytes bt),x3,x4,M,B,x7,x8,x9,dx,cG,cK,some (.cj acc),some (vi k),some (.int z),dM]:=fun h=>h ▸ S.assign (Jz ha (E.slice (l:=vi k) (h:=vi (k+1)) rfl rfl rfl rfl s1))
 have e2:∀ {z y:Int},(match cn b with | some d=>(d:Int) | none=>-1)=z->bT D (.assign 16 (.aH .find (.glob iP) (.cons (.aH .lower (.slice (.loc 2) (.bin .add (.loc 14) (.const (.int 1))) (.bin .add (.loc 14) (.const (.int 2)))) .nil) .nil))) [T,I,some (.bytes bt),x3,x4,M,B,x7,x8,x9,dx,cG,cK,some (.cj acc),some (vi k),some (.int y),dM] =
   .next [T,I,some (.bytes bt),x3,x4,M,B,x7,x8,x9,dx,cG,cK,some (.cj acc),some (vi k),some (.int y),some (.int z)]:=fun h=>h ▸ S.assign (Jz hb (E.slice (l:=vi (k+1)) (h:=vi (k+2)) rfl rfl rfl rfl s2))
 have cc:∀ y z:Int,ao D (.or (.cmp .lt (.loc 15) (.const (.int 0))) (.cmp .lt (.loc 16) (.const (.int 0)))) [T,I,some (.bytes bt),x3,x4,M,B,x7,x8,x9,dx,cG,cK,some (.cj acc),some (vi k),some (.int y),some (.int z)]=.ok (.bool (decide (y<0)||decide (z<0))):=fun y z=>C.or (E.cmp (x:=.int y) (y:=.int 0) rfl rfl rfl) (E.cmp (x:=.int z) (y:=.int 0) rfl rfl rfl)
 rw[jT]
 cases h1:cn a with
 | none=>
  rw[h1] at e1
  exact⟨_,S.seq (e1 rfl) (S.seq (e2 rfl) (S.fu ((S.aF (cc _ _) rfl).trans rfl)))⟩
 | some h=>
  rw[h1] at e1
  have n1:decide ((h:Int)<0)=false:=decide_eq_false (Int.not_lt.mpr (Int.natCast_nonneg _))
  cases h2:cn b with
  | none=>
   rw[h2] at e2
   exact⟨_,S.seq (e1 rfl) (S.seq (e2 rfl) (S.fu ((S.aF (cc _ _) (by rw[n1];rfl)).trans rfl)))⟩
  | some l=>
   rw[h2] at e2
   have hh:=jR h1
   have NF:=jR h2
   refine⟨_,_,S.seq (e1 rfl) (S.seq (e2 rfl) (S.seq (S.skip ((cc h l).trans (b5 (by rw[n1,decide_eq_false (Int.not_lt.mpr (Int.natCast_nonneg l))];rfl)))) (S.one (S.TB (k:=h*16+l) rfl (E.bin (x:=vi (h*16)) (y:=vi l) (E.bin (x:=vi h) (y:=vi 16) rfl rfl (NT (Nat.lt_trans hh (by decide)))) rfl rfl) (by lia) hl))))⟩
theorem JB (a b:Nat) (r:List Nat):di (a::b::r)=(di [a,b]).bind fun g=>(di r).map fun h=>g++h:=by
 rw[jT,jT]
 cases cn a with
 | none=>rfl
 | some x=>cases cn b with
  | none=>rfl
  | some y=>show (di r).map _=(di r).map _;rfl
theorem NZ {D:Fn->List V->R V}{T I x3 x4 M B x7 x8 x9 dx cG cK:Option V}{bt:List Nat}:∀ (m:Nat) (s pre acc:List Nat) (cU dP dM:Option V),s.length=2*m->bt=pre++s->(∀ c∈s,c<128)->acc.length+m<=1000->
  match di s with
  | some g=>∃ a b c,dh 14 (ak D gL) ((List.range' 0 m).map fun k=>vi (pre.length+2*k)) [T,I,some (.bytes bt),x3,x4,M,B,x7,x8,x9,dx,cG,cK,some (.cj acc),cU,dP,dM] =
    .next [T,I,some (.bytes bt),x3,x4,M,B,x7,x8,x9,dx,cG,cK,some (.cj (acc++g)),a,b,c]
  | none=>∃ J,dh 14 (ak D gL) ((List.range' 0 m).map fun k=>vi (pre.length+2*k)) [T,I,some (.bytes bt),x3,x4,M,B,x7,x8,x9,dx,cG,cK,some (.cj acc),cU,dP,dM]=.exc .syntax J:=by
 intro z0
 induction z0 with
 | zero=>
  intro s pre acc cU dP dM hs _ _ _
  obtain rfl:=List.length_eq_zero_iff.mp hs
  exact⟨_,_,_,by rw[List.append_nil];rfl⟩
 | succ m ih=>
  intro s pre acc cU dP dM hs VX hc ha
  match s,hs,VX,hc with
  | a::b::r,hs,VX,hc=>
   have hr:r.length=2*m:=by rw[List.length_cons,List.length_cons] at hs;omega
   have ht:=JA (D:=D) (T:=T) (I:=I) (x3:=x3) (x4:=x4) (M:=M) (B:=B) (x7:=x7) (x8:=x8) (x9:=x9) (dx:=dx) (cG:=cG) (cK:=cK) (dP:=dP) (dM:=dM) (bt:=bt) (acc:=acc) (k:=pre.length) (hc a (.head _)) (hc b (.tail _ (.head _))) (by rw[VX,List.drop_left];rfl) (by omega)
   have Y1:(List.range' (0+1) m).map (fun k=>vi (pre.length+2*k))=(List.range' 0 m).map fun k=>vi ((pre++[a,b]).length+2*k):=by
    rw[List.range'_eq_map_range,List.range'_eq_map_range,List.map_map,List.map_map]
    refine List.map_congr_left fun k O=>congrArg (fun n:Nat=>vi n) ?_
    rw[List.length_append]
    show pre.length+2*(0+1+k)=pre.length+2+2*(0+k)
    omega
   rw[List.range'_succ,List.map_cons,Y1,JB]
   cases q:di [a,b] with
   | none=>rw[q] at ht;exact ht.imp fun J e=>F.P4 e
   | some g=>
    rw[q] at ht
    refine bW ht fun y z e=>?_
    have hg:g.length=1:=by
     rw[jT] at q
     cases qa:cn a with
     | none=>rw[qa] at q;contradiction
     | some x=>cases qb:cn b with
      | none=>rw[qa,qb] at q;contradiction
      | some y=>rw[qa,qb] at q;injection q with q;subst q;rfl
    have ih:=ih r (pre++[a,b]) (acc++g) (some (vi pre.length)) y z hr (by rw[VX,List.append_assoc];rfl) (fun c NP=>hc c (.tail _ (.tail _ NP))) (by rw[List.length_append,hg];lia)
    rw[Option.bind_some]
    cases q2:di r with
    | none=>rw[q2] at ih;exact ih.imp fun J e'=>F.cons e e'
    | some g'=>
     rw[q2] at ih
     refine eR ih fun u v w e'=>?_
     exact⟨u,v,w,by rw[F.cons e e',List.append_assoc]⟩
noncomputable def dr (bt:List Nat):List Nat:=if ([58,58]:List Nat).isPrefixOf bt=true then bt.drop 1 else if ([58,58]:List Nat).isSuffixOf bt=true then bt.take (bt.length - 1) else bt
noncomputable def gx (ch:List (List Nat)):Option (List Nat):=if 8<ch.length then none else match cP ch.length ch false [] with
 | none=>none
 | some (cs,seen)=>if ch.length<8/\seen=false then none else di cs.flatten
noncomputable def uj (bt:List Nat):Option (List Nat):=gx (ai 58 (dr bt))
noncomputable def jm (o:Option (List Nat)):R V:=match o with
 | some g=>.ok (.bytes g)
 | none=>.exc .syntax
theorem nM:∀ l:List (List Nat),bj [] l=l.flatten
 | []=>rfl
 | [x]=>by simp[dg,ck,aV]
 | x::y::r=>by rw[aV,nM (y::r)]<;>simp
set_option tactic.hygienic true in
theorem AY {l:Nat}:∀ (r:List (List Nat)) (seen:Bool) (acc cs:List (List Nat)) (s':Bool),cP l r seen acc=some (cs,s')->(∀ c∈acc,c.length=4/\∀ x∈c,x<128)->(∀ c∈r,∀ x∈c,x<128)->
  (∀ c∈cs,c.length=4/\∀ x∈c,x<128)/\(seen=s'->cs.length=acc.length+r.length)/\(seen=false->s'=true->cs.length+1=acc.length+r.length+(9 - l))/\(seen=true->s'=true):=by
 intro z0
 induction z0 with
 | nil=>
  intro seen acc cs s' h ha _
  cases h
  exact⟨ha,fun O=>rfl,fun e1 e2=>(by rw[e1] at e2;contradiction),id⟩
 | cons c r ih=>
  intro seen acc cs s' h ha hr
  rw[dk] at h
  have S5:∀ c∈r,∀ x∈c,x<128:=fun c hc=>hr c (.tail _ hc)
  split at h
  ·split at h
   ·contradiction
   ·rename_i hs
    have nO:seen=false:=by simpa using hs
    obtain⟨h1,h2,h3,h4⟩:=ih true _ cs s' h (fun c hc=>by
     rcases List.mem_append.mp hc with hc | hc
     ·exact ha c hc
     ·rw[List.eq_of_mem_replicate hc];decide) S5
    have h5:=h4 rfl
    have h6:=h2 h5.symm
    rw[List.length_append,List.length_replicate] at h6
    refine⟨h1,fun e=>(by rw[nO,h5] at e;contradiction),fun O O=>(by rw[List.length_cons];lia),fun e=>(by rw[nO] at e;contradiction)⟩
  ·split at h
   ·contradiction
   ·rename_i h0 h4
    obtain⟨h1,h2,h3,h5⟩:=ih seen _ cs s' h (fun d hd=>by
     rcases List.mem_append.mp hd with hd | hd
     ·exact ha d hd
     ·rw[List.mem_singleton.mp hd]
      unfold lg
      refine⟨by rw[List.length_append,List.length_replicate];lia,fun x hx=>?_⟩
      rcases List.mem_append.mp hx with hx | hx
      ·rw[List.eq_of_mem_replicate hx];decide
      ·exact hr c (.head _) x hx) S5
    refine⟨h1,fun e=>?_,fun e1 e2=>?_,h5⟩
    ·have:=h2 e;rw[List.length_append,List.length_singleton] at this;rw[List.length_cons];lia
    ·have:=h3 e1 e2;rw[List.length_append,List.length_singleton] at this;rw[List.length_cons];lia
theorem JC:∀ {cs:List (List Nat)},(∀ c∈cs,c.length=4)->cs.flatten.length=4*cs.length/\bx cs=4*cs.length:=by
 intro z0
 induction z0 with
 | nil=>
  exact fun O=>⟨rfl,rfl⟩
 | cons c r ih=>
  intro h
  refine aC (ih fun c hc=>h c (.tail _ hc)) fun h1 h2=>?_
  have:=h c (.head _)
  rw[List.flatten_cons,List.length_append,List.length_cons,aY]
  lia
theorem Rk (m:Nat):iq 0 ((2*m:Nat):Int) 2=(List.range' 0 m).map fun k=>vi (([]:List Nat).length+2*k):=by
 unfold iq
 rw[List.range_eq_range']
 have:((((2*m:Nat):Int) - 0).toNat+2 - 1) / 2=m:=by lia
 rw[this]
 apply List.map_congr_left
 intro x _
 show V.int _=V.int _
 congr 1
theorem GD {D:Fn->List V->R V}{p:PE}{J:Ρ}{m:Nat} (h:ao D p J=.ok (.int ((2*m:Nat):Int))) (hk:m<=1000):gI D (.sO (.const (.int 0)) p 2) J=.ok ((List.range' 0 m).map fun k=>vi (([]:List Nat).length+2*k)):=by
 refine f7 h ?_
 dsimp only
 rw[Rk,R.guard,if_pos]
 simp only[Bool.and_eq_true,decide_eq_true_eq]
 exact⟨⟨.inr trivial,by decide⟩,by rw[Int.natAbs_natCast];lia⟩
theorem JD (s:List Nat):aP (.bytes s) (.int 1) .none=.ok (.bytes (s.drop 1)):=jS s 1
theorem N0 (s:List Nat):aP (.bytes s) .none (.int (-1))=.ok (.bytes (s.take (s.length - 1))):=by
 unfold aP;dsimp only[bound]
 rw[if_pos (by decide)]
 have:(max 0 (-1+(s.length:Int))).toNat=s.length - 1:=by lia
 rw[this]
 unfold cut
 rw[List.drop_zero,Nat.sub_zero]
section
variable {n:Nat}{T I x3 x4 M B x7 x8 x9 dx cG cK dw cU dP dM:Option V}
theorem GF {D:Fn->List V->R V} (bt:List Nat):bT D tS [T,I,some (.bytes bt),x3,x4,M,B,x7,x8,x9,dx,cG,cK,dw,cU,dP,dM]=.next [T,I,some (.bytes (dr bt)),x3,x4,M,B,x7,x8,x9,dx,cG,cK,dw,cU,dP,dM]:=by
 unfold dr
 have cp:ao D (.aH .startswith (.loc 2) (.cons (.const (.bytes [58,58])) .nil)) [T,I,some (.bytes bt),x3,x4,M,B,x7,x8,x9,dx,cG,cK,dw,cU,dP,dM]=.ok (.bool (([58,58]:List Nat).isPrefixOf bt)):=rfl
 have cs:ao D (.aH .endswith (.loc 2) (.cons (.const (.bytes [58,58])) .nil)) [T,I,some (.bytes bt),x3,x4,M,B,x7,x8,x9,dx,cG,cK,dw,cU,dP,dM]=.ok (.bool (([58,58]:List Nat).isSuffixOf bt)):=rfl
 cases q1:([58,58]:List Nat).isPrefixOf bt with
 | true=>exact (S.aF cp q1).trans (S.one (S.assign (E.slice (x:=.bytes bt) (l:=.int 1) (h:=.none) rfl rfl rfl rfl (JD bt))))
 | false=>
  refine (S.cO cp q1).trans (S.last.trans ?_)
  cases q2:([58,58]:List Nat).isSuffixOf bt with
  | true=>exact (S.aF cs q2).trans (S.one (S.assign (E.slice (x:=.bytes bt) (l:=.none) (h:=.int (-1)) rfl rfl rfl rfl (N0 bt))))
  | false=>exact S.skip (cs.trans (b5 q2))
theorem JF {bt:List Nat}{c:Nat} (h:c∈dr bt):c∈bt:=by
 unfold dr at h
 split at h
 ·exact List.mem_of_mem_drop h
 ·split at h
  ·exact List.mem_of_mem_take h
  ·exact h
theorem N1 (bt:List Nat):(dr bt).length<=bt.length:=by
 unfold dr
 split
 ·rw[List.length_drop];exact Nat.sub_le _ _
 ·split
  ·rw[List.length_take];exact Nat.min_le_right _ _
  ·exact Nat.le_refl _
theorem AZ {cs:List (List Nat)} (h4:∀ c∈cs,c.length=4/\∀ x∈c,x<128) (h8:cs.length=8):(ak (ae defs n) kY [T,I,x3,x4,M,B,x7,x8,dM,some (.list (vb cs)),dx,cG,cK,dw,cU,dP,x9]).value=jm (di cs.flatten):=by
 refine aC (JC fun c hc=>(h4 c hc).1) fun f1 f2=>?_
 rw[h8] at f1 f2
 have hj:bq .join [.bytes [],.list (vb cs)]=.ok (.bytes cs.flatten):=(xM [] cs).trans (by
  rw[decide_eq_true (show 2<=cs.length by rw[h8];decide),decide_eq_true (show bx cs+([]:List Nat).length*cs.length<=lim by rw[f2,h8];decide),nM];rfl)
 have hx:=NZ (D:=ae defs n) (T:=T) (I:=I) (x3:=x4) (x4:=M) (M:=B) (B:=x7) (x7:=x8) (x8:=dM) (x9:=some (.list (vb cs))) (dx:=dx) (cG:=cG) (cK:=cK) (bt:=cs.flatten) 16 cs.flatten [] [] cU dP x9 f1 rfl (fun c hc=>by
  refine Exists.elim (List.mem_flatten.mp hc) fun d zz=>aC zz fun hd Rl=>?_
  exact (h4 d hd).2 c Rl) (by decide)
 have go:∀ {z:SR},ak (ae defs n) qA [T,I,some (.bytes cs.flatten),x4,M,B,x7,x8,dM,some (.list (vb cs)),dx,cG,cK,some (.cj []),cU,dP,x9]=z->ak (ae defs n) kY [T,I,x3,x4,M,B,x7,x8,dM,some (.list (vb cs)),dx,cG,cK,dw,cU,dP,x9]=z:=fun h=>
  S.seq (S.assign (E.aH (x:=.bytes []) rfl rfl (E.one rfl) hj)) (S.seq rfl h)
 have hf:bT (ae defs n) qz [T,I,some (.bytes cs.flatten),x4,M,B,x7,x8,dM,some (.list (vb cs)),dx,cG,cK,some (.cj []),cU,dP,x9]=_:=S.for (GD (m:=16) (E.prim (E.one rfl) (qN (by rw[f1]))) (by decide)) (by decide) rfl
 cases hq:di cs.flatten with
 | none=>rw[hq] at hx;refine Exists.elim hx fun J e=>?_;exact S.k6 (go (S.fu (hf.trans e)))
 | some g=>rw[hq] at hx;refine eR hx fun a b c e=>?_;exact S.val (go (S.seq (hf.trans e) (S.end (S.ret rfl))))
theorem uk (bt:List Nat) (hb:∀ c∈bt,c<128) (hl:bt.length<=600) :
  (ak (ae defs n) nB [T,I,some (.bytes bt),x3,x4,M,B,x7,x8,x9,dx,cG,cK,dw,cU,dP,dM]).value=jm (uj bt):=by
 unfold uj
 have A0:=Nat.le_trans (N1 bt) hl
 have Rm:∀ c∈ai 58 (dr bt),∀ x∈c,x<128:=fun c hc x hx=>hb x (JF (iA _ c x hc hx))
 have au:=dX (c:=58) (dr bt)
 have go:∀ {z:SR},ak (ae defs n) tT [T,I,some (.bytes (dr bt)),x3,some (vi (ai 58 (dr bt)).length),M,B,some (.list (vb (ai 58 (dr bt)))),x8,x9,dx,cG,cK,dw,cU,dP,dM]=z->ak (ae defs n) nB [T,I,some (.bytes bt),x3,x4,M,B,x7,x8,x9,dx,cG,cK,dw,cU,dP,dM]=z:=fun h=>
  S.seq (GF bt) (S.seq (S.assign (E.aH (x:=.bytes (dr bt)) rfl rfl (E.one rfl) ((uc _ 58).trans (e8 (Nat.le_trans A0 (by decide)) rfl)))) (S.seq (S.assign (E.Jj rfl)) h))
 revert go Rm au
 generalize ai 58 (dr bt)=ch
 generalize dr bt=b
 intro Rm au go
 unfold gx
 have c8:ao (ae defs n) (.cmp .gt (.loc 4) (.const (.int 8))) [T,I,some (.bytes b),x3,some (vi ch.length),M,B,some (.list (vb ch)),x8,x9,dx,cG,cK,dw,cU,dP,dM]=.ok (.bool (decide (8<ch.length))):=E.cmp (x:=vi ch.length) (y:=vi 8) rfl rfl (b5 (fP 8 _))
 by_cases h8:8<ch.length
 ·rw[if_pos h8]
  exact S.k6 (go (S.fu ((S.aF c8 (decide_eq_true h8)).trans rfl)))
 ·rw[if_neg h8]
  have hle:=Nat.le_of_not_lt h8
  have e:=GC (D:=ae defs n) (T:=T) (I:=I) (x2:=some (.bytes b)) (x3:=x3) (M:=M) (B:=B) (x7:=some (.list (vb ch))) (dw:=dw) (cU:=cU) (dP:=dP) (dM:=dM) (l:=ch.length) hle ch false [] dx cG cK (by rw[List.length_nil,Nat.zero_add];exact Nat.le_trans (Nat.mul_le_mul_left 10 hle) (by decide))
  have hf:bT (ae defs n) qy [T,I,some (.bytes b),x3,some (vi ch.length),M,B,some (.list (vb ch)),some (.bool false),some (.list (vb [])),dx,cG,cK,dw,cU,dP,dM]=_:=S.for (xs:=vb ch) rfl (by rw[List.length_map];exact Nat.le_trans hle (by decide)) rfl
  have go2:∀ {z:SR},ak (ae defs n) qB [T,I,some (.bytes b),x3,some (vi ch.length),M,B,some (.list (vb ch)),some (.bool false),some (.list (vb [])),dx,cG,cK,dw,cU,dP,dM]=z->_=z:=fun h=>go (S.seq (S.skip (c8.trans (b5 (decide_eq_false h8)))) (S.seq (S.assign rfl) (S.seq (S.own (l:=[]) rfl) h)))
  have hinv:=AY (l:=ch.length) ch false []
  cases hq:cP ch.length ch false [] with
  | none=>
   rw[hq] at e
   obtain⟨J,e⟩:=e
   exact S.k6 (go2 (S.fu (hf.trans e)))
  | some p=>
   obtain⟨cs,seen⟩:=p
   rw[hq] at e
   obtain⟨N2,N3,Wv,e⟩:=e
   obtain⟨i1,i2,i3,i4⟩:=hinv cs seen hq (fun c hc=>by contradiction) Rm
   dsimp only
   have cb:ao (ae defs n) (.and (.cmp .lt (.loc 4) (.const (.int 8))) (.not (.loc 8))) [T,I,some (.bytes b),x3,some (vi ch.length),M,B,some (.list (vb ch)),some (.bool seen),some (.list (vb cs)),N2,N3,Wv,dw,cU,dP,dM]=.ok (.bool (decide (ch.length<8)&&!seen)):=C.and (E.cmp (x:=vi ch.length) (y:=vi 8) rfl rfl (b5 (fP _ 8))) (E.not (x:=.bool seen) rfl rfl)
   by_cases vR:ch.length<8/\seen=false
   ·rw[if_pos vR]
    exact S.k6 (go2 (S.seq (hf.trans e) (S.fu ((S.aF cb (by rw[decide_eq_true vR.1,vR.2];rfl)).trans rfl))))
   ·rw[if_neg vR]
    have Mj:cs.length=8:=by
     have Y2:1<=ch.length:=List.length_pos_iff.mpr au
     cases seen with
     | false=>rw[i2 rfl,List.length_nil,Nat.zero_add];exact Nat.le_antisymm hle (Nat.le_of_not_lt fun q=>vR ⟨q,rfl⟩)
     | true=>have:=i3 rfl rfl;rw[List.length_nil] at this;lia
    have Y3:(decide (ch.length<8)&&!seen)=false:=by
     cases seen with
     | true=>exact Bool.and_false _
     | false=>rw[decide_eq_false fun q=>vR ⟨q,rfl⟩];rfl
    have:=AZ (n:=n) (T:=T) (I:=I) (x3:=some (.bytes b)) (x4:=x3) (M:=some (vi ch.length)) (B:=M) (x7:=B) (x8:=some (.list (vb ch))) (dM:=some (.bool seen)) (dx:=N2) (cG:=N3) (cK:=Wv) (dw:=dw) (cU:=cU) (dP:=dP) (x9:=dM) i1 Mj
    rw[go2 (S.seq (hf.trans e) (S.seq (S.skip (cb.trans (b5 Y3))) rfl))]
    exact this
end
noncomputable def hex2 (b:Nat):List Nat:=[dE (b / 16),dE (b % 16)]
noncomputable def eP:List Nat->List Nat
 | [a,b,c,d]=>hex2 a++hex2 b++58::(hex2 c++hex2 d)
 | _=>[]
noncomputable def JG (t:List Nat):Option (List Nat):=match Ri t with
 | none=>uj t
 | some (m,q)=>if aI q=[] then none else uj (m++58::eP (aI q))
noncomputable def rg (t:List Nat):Bool:=([58]:List Nat).isSuffixOf t&&!([58,58]:List Nat).isSuffixOf t
noncomputable def mn (t:List Nat):Bool:=([58]:List Nat).isPrefixOf t&&!([58,58]:List Nat).isPrefixOf t
noncomputable def coreS (t:List Nat):Option (List Nat):=if t=[] then none else if rg t=true then none else if mn t=true then none else JG (if t=[58,58] then [48,58,58] else t)
theorem N4 {n:Nat} (h:n<16):dE n<128:=by unfold dE;split<;>lia
theorem eH (a b c d:Nat):eP [a,b,c,d]=hex2 a++hex2 b++58::(hex2 c++hex2 d):=rfl
theorem jU {b:Nat} (h:b<256):∀ c∈hex2 b,c<128:=fun c hc=>by
 unfold hex2 at hc
 simp only[List.mem_cons,List.not_mem_nil,or_false] at hc
 rcases hc with rfl | rfl<;>exact N4 (by lia)
theorem p8 {b:Nat} (h:b<256):sQ .uU (.int (b:Int))=.ok (hex2 b):=by
 unfold sQ;dsimp only
 rw[if_pos (by lia),Int.toNat_natCast];rfl
section
variable {n:Nat}{T I x3 x4 x5 x6 x7 x8 x9 dx cG cK dw cU dP dM:Option V}
theorem E.fs {D:Fn->List V->R V}{J:Ρ}{e:PE}{f:PX}{r:CJ}{v:V}{s t:List Nat} (h:ao D e J=.ok v) (hf:sQ f v=.ok s) (hl:s.length<=100000) (k:gJ D r J=.ok t):gJ D (.cons e f r) J=.ok (s++t):=qO h hf hl k
theorem E.qm {D:Fn->List V->R V}{J:Ρ}{es:CJ}{s:List Nat} (h:gJ D es J=.ok s):ao D (.qm es) J=.ok (.str s):=f7 h rfl
theorem ri {a b c d:Nat} (ha:a<256) (hb:b<256) (hc:c<256) (hd:d<256):∀ x∈58::eP [a,b,c,d],x<128:=by
 unfold eP
 simp only[List.forall_mem_cons,List.forall_mem_append]
 exact⟨by decide,⟨jU ha,jU hb⟩,by decide,jU hc,jU hd⟩
theorem GH {D:Fn->List V->R V}{J:Ρ}{m q:List Nat}{a b c d:Nat} (h5:ao D (.loc 5) J=.ok (.tuple [.bytes m,.bytes q])) (h6:ao D (.loc 6) J=.ok (.bytes [a,b,c,d])) (hm:m≠[]) (VY:m.length<=1000) (TN:∀ c∈m,c<128) (ha:a<256) (hb:b<256) (hc:c<256) (hd:d<256) :
  bT D (.assign 2 (.aH .encode (.qm (.cons (.aH .decode (.idx (.loc 5) (.const (.int 0))) .nil) .plain (.cons (.const (.str [58])) .plain (.cons (.idx (.loc 6) (.const (.int 0))) .uU (.cons (.idx (.loc 6) (.const (.int 1))) .uU (.cons (.const (.str [58])) .plain (.cons (.idx (.loc 6) (.const (.int 2))) .uU (.cons (.idx (.loc 6) (.const (.int 3))) .uU .nil)))))))) .nil)) J =
   .next (J.set 2 (some (.bytes (m++58::eP [a,b,c,d])))):=by
 have e0:ao D (.aH .decode (.idx (.loc 5) (.const (.int 0))) .nil) J=.ok (.str m):=E.aH (x:=.bytes m) (E.idx h5 (y:=.int 0) rfl rfl rfl) rfl rfl (by rw[Je,fQ TN];cases m with | nil=>exact absurd rfl hm | cons _ _=>rfl)
 have hh:∀ v:Nat,(hex2 v).length<=100000:=fun v=>(by decide:2<=100000)
 have at_:∀ {i:Int}{v:Nat},il (.bytes [a,b,c,d]) (.int i)=.ok (vi v)->ao D (.idx (.loc 6) (.const (.int i))) J=.ok (vi v):=fun h=>E.idx h6 (y:=.int _) rfl rfl h
 have e1:=E.fs (f:=.plain) e0 rfl (Nat.le_trans VY (by decide)) (E.fs (f:=.plain) (e:=.const (.str [58])) rfl rfl (by decide) (E.fs (f:=.uU) (at_ (i:=0) (v:=a) rfl) (p8 ha) (hh a) (E.fs (f:=.uU) (at_ (i:=1) (v:=b) rfl) (p8 hb) (hh b) (E.fs (f:=.plain) (e:=.const (.str [58])) rfl rfl (by decide) (E.fs (f:=.uU) (at_ (i:=2) (v:=c) rfl) (p8 hc) (hh c) (E.fs (f:=.uU) (r:=.nil) (at_ (i:=3) (v:=d) rfl) (p8 hd) (hh d) rfl))))))
 have Rn:m++([58]++(hex2 a++(hex2 b++([58]++(hex2 c++(hex2 d++[]))))))=m++58::eP [a,b,c,d]:=by
  rw[List.append_nil]
  show _=m++58::(hex2 a++hex2 b++58::(hex2 c++hex2 d))
  rw[List.append_assoc];rfl
 rw[Rn] at e1
 exact S.assign (E.aH (E.qm e1) rfl rfl ((xK _).trans (by rw[fQ fun x hx=>(List.mem_append.mp hx).elim (TN x) (ri ha hb hc hd x)];rfl)))
set_option tactic.hygienic true in
theorem xU (t:List Nat) (ht:∀ c∈t,c<128) (hn:10∉t) (hl:t.length<=520) (hs:mn t=false) :
  (ak (ae defs (n+1)) jP [T,I,some (.bytes t),x3,x4,x5,x6,x7,x8,x9,dx,cG,cK,dw,cU,dP,dM]).value=jm (JG t):=by
 have go:∀ {z:SR},ak (ae defs (n+1)) tU [T,I,some (.bytes t),x3,x4,some (XS (Ri t)),x6,x7,x8,x9,dx,cG,cK,dw,cU,dP,dM]=z->ak (ae defs (n+1)) jP [T,I,some (.bytes t),x3,x4,x5,x6,x7,x8,x9,dx,cG,cK,dw,cU,dP,dM]=z:=fun h=>S.seq (S.assign (E.call (E.one rfl) (Wt (n:=n) t hn hl))) h
 unfold JG
 cases hq:Ri t with
 | none=>
  rw[hq] at go
  rw[go (S.seq (S.skip rfl) rfl)]
  exact uk t ht (Nat.le_trans hl (by decide))
 | some p=>
  rw[hq] at go
  obtain⟨m,q⟩:=p
  have hL:jl t=some (m,q):=by
   unfold Ri at hq
   split at hq
   ·rename_i e
    split at hq
    ·cases hq;exact e
    ·contradiction
   ·contradiction
  refine aC (k9 hL) fun e1 e2=>?_
  have hm:m≠[]:=fun z=>by
   subst z
   rw[e1] at hs
   unfold mn at hs
   cases q with
   | nil=>contradiction
   | cons a r=>
    have:a≠58:=fun z=>e2 (by rw[z];exact .head _)
    simp[List.isPrefixOf,this.symm] at hs
  have VY:m.length+(1+q.length)=t.length:=by rw[e1,List.length_append,List.length_cons,Nat.add_comm 1]
  have TP:m.length<=520:=Nat.le_trans (Nat.le_add_right _ _) (Nat.le_trans (Nat.le_of_eq VY) hl)
  have VZ:=Jq (n:=n) q (Nat.le_trans (Nat.le_trans (Nat.le_add_left _ 1) (Nat.le_add_left _ m.length)) (Nat.le_trans (Nat.le_of_eq VY) hl))
  have TN:∀ c∈m,c<128:=fun c hc=>ht c (by rw[e1];exact List.mem_append_left _ hc)
  dsimp only
  by_cases hz:aI q=[]
  ·rw[if_pos hz]
   rw[hz] at VZ
   exact S.k6 (go (S.fu ((S.aF rfl rfl).trans (S.fu (S.C3 (E.call (vs:=[.bytes q]) rfl VZ))))))
  ·rw[if_neg hz]
   refine kR (dF hz) fun a b c d zz=>p4 zz fun TQ ha hb hc hd=>?_
   rw[TQ] at VZ ⊢
   rw[go (S.seq ((S.aF rfl rfl).trans (S.seq (S.assign (E.call (vs:=[.bytes q]) rfl VZ)) (S.one (GH (m:=m) (q:=q) rfl rfl hm (Nat.le_trans TP (by decide)) TN ha hb hc hd)))) rfl)]
   exact uk _ (fun x hx=>(List.mem_append.mp hx).elim (TN x) (ri ha hb hc hd x)) (by rw[List.length_append];exact Nat.le_trans (Nat.add_le_add TP (show (58::eP [a,b,c,d]).length<=10 from (by show (10:Nat)<=10;decide))) (by decide))
theorem jV (t:List Nat) (ht:∀ c∈t,c<128) (hn:10∉t) (hl:t.length<=520) :
  (ak (ae defs (n+1)) jQ [T,I,some (.bytes t),x3,x4,x5,x6,x7,x8,x9,dx,cG,cK,dw,cU,dP,dM]).value=jm (coreS t):=by
 unfold coreS
 have c0:ao (ae defs (n+1)) (.cmp .eq (.loc 2) (.const (.bytes []))) [T,I,some (.bytes t),x3,x4,x5,x6,x7,x8,x9,dx,cG,cK,dw,cU,dP,dM]=.ok (.bool (decide (t=[]))):=E.cmp (x:=.bytes t) (y:=.bytes []) rfl rfl (by rw[vI];rfl)
 have ce:ao (ae defs (n+1)) (.and (.aH .endswith (.loc 2) (.cons (.const (.bytes [58])) .nil)) (.not (.aH .endswith (.loc 2) (.cons (.const (.bytes [58,58])) .nil)))) [T,I,some (.bytes t),x3,x4,x5,x6,x7,x8,x9,dx,cG,cK,dw,cU,dP,dM]=.ok (.bool (rg t)):=C.and rfl (E.not rfl rfl)
 have cs:ao (ae defs (n+1)) (.and (.aH .startswith (.loc 2) (.cons (.const (.bytes [58])) .nil)) (.not (.aH .startswith (.loc 2) (.cons (.const (.bytes [58,58])) .nil)))) [T,I,some (.bytes t),x3,x4,x5,x6,x7,x8,x9,dx,cG,cK,dw,cU,dP,dM]=.ok (.bool (mn t)):=C.and rfl (E.not rfl rfl)
 have c2:ao (ae defs (n+1)) (.cmp .eq (.loc 2) (.const (.bytes [58,58]))) [T,I,some (.bytes t),x3,x4,x5,x6,x7,x8,x9,dx,cG,cK,dw,cU,dP,dM]=.ok (.bool (decide (t=[58,58]))):=E.cmp (x:=.bytes t) (y:=.bytes [58,58]) rfl rfl (by rw[vI];rfl)
 by_cases h0:t=[]
 ·rw[if_pos h0]
  exact S.k6 (S.fu ((S.aF c0 (decide_eq_true h0)).trans rfl))
 ·rw[if_neg h0]
  cases h1:rg t with
  | true=>exact S.k6 (S.fu ((S.cO c0 (decide_eq_false h0)).trans (S.last.trans ((S.aF ce h1).trans rfl))))
  | false=>
   cases h2:mn t with
   | true=>exact S.k6 (S.fu ((S.cO c0 (decide_eq_false h0)).trans (S.last.trans ((S.cO ce h1).trans (S.last.trans ((S.aF cs h2).trans rfl))))))
   | false=>
    rw[if_neg Bool.false_ne_true,if_neg Bool.false_ne_true]
    have go:∀ {ρ':Ρ},bT (ae defs (n+1)) (.ite (.cmp .eq (.loc 2) (.const (.bytes [58,58]))) (.cons (.assign 2 (.const (.bytes [48,58,58]))) .nil) .nil) [T,I,some (.bytes t),x3,x4,x5,x6,x7,x8,x9,dx,cG,cK,dw,cU,dP,dM]=.next ρ'->
      ak (ae defs (n+1)) jQ [T,I,some (.bytes t),x3,x4,x5,x6,x7,x8,x9,dx,cG,cK,dw,cU,dP,dM]=ak (ae defs (n+1)) jP ρ':=fun h=>S.seq ((S.cO c0 (decide_eq_false h0)).trans (S.last.trans ((S.cO ce h1).trans (S.last.trans ((S.cO cs h2).trans (S.one h)))))) rfl
    by_cases hc:t=[58,58]
    ·rw[if_pos hc,go ((S.aF c2 (decide_eq_true hc)).trans (S.one (S.assign rfl)))]
     exact xU [48,58,58] (by decide) (by decide) (by decide) (by decide)
    ·rw[if_neg hc,go (S.skip (c2.trans (b5 (decide_eq_false hc))))]
     exact xU t ht hn hl h2
end
noncomputable def vS (t:List Nat):Option (List Nat):=match ai 37 t with
 | [a,_]=>coreS a
 | [_]=>coreS t
 | _=>none
theorem vT {D:Fn->List V->R V}{t:List Nat}{x:V} (ht:∀ c∈t,c<128):bT D nA [some (.str t),some x,none,none,none,none,none,none,none,none,none,none,none,none,none,none,none]=.next [some (.str t),some x,some (.bytes t),none,none,none,none,none,none,none,none,none,none,none,none,none,none]:=
 (S.aF rfl rfl).trans (S.one (S.assign (E.aH (x:=.str t) rfl rfl rfl ((xK t).trans (by rw[fQ ht];rfl)))))
theorem N5 {n:Nat} (t:List Nat) (ht:∀ c∈t,c<128) (hn:10∉t) (hl:t.length<=520):ae defs (n+2) .bN [.str t]=jm (coreS t):=
 (congrArg SR.value (S.seq (r:=nE) (vT (D:=ae defs (n+1)) (x:=.bool false) ht) (S.seq (S.skip rfl) rfl))).trans (jV t ht hn hl)
theorem JH {n:Nat} (t:List Nat) (ht:∀ c∈t,c<128) (hn:10∉t) (hl:t.length<=520):ae defs (n+2) .bN [.bytes t]=jm (coreS t):=
 (congrArg SR.value (S.seq (D:=ae defs (n+1)) (s:=nA) (r:=nE) (J:=[some (.bytes t),some (.bool false),none,none,none,none,none,none,none,none,none,none,none,none,none,none,none]) rfl (S.seq (S.skip rfl) rfl))).trans (jV t ht hn hl)
theorem JJ {n:Nat} (t:List Nat) (ht:∀ c∈t,c<128) (hn:10∉t) (hl:t.length<=520):ae defs (n+2) .bN [.str t,.bool true]=jm (vS t):=by
 unfold vS
 have Ww:∀ p∈ai 37 t,(∀ c∈p,c<128)/\10∉p/\p.length<=520:=fun p hp=>⟨fun c hc=>ht c (iA t p c hp hc),fun h=>hn (iA t p 10 hp h),Nat.le_trans (eG t p hp) hl⟩
 have e3:bT (ae defs (n+1)) (.assign 3 (.aH .split (.loc 2) (.cons (.const (.bytes [37])) .nil))) [some (.str t),some (.bool true),some (.bytes t),none,none,none,none,none,none,none,none,none,none,none,none,none,none]=.next [some (.str t),some (.bool true),some (.bytes t),some (.list (vb (ai 37 t))),none,none,none,none,none,none,none,none,none,none,none,none,none]:=
  S.assign (E.aH (x:=.bytes t) rfl rfl (E.one rfl) ((uc t 37).trans (e8 (Nat.le_trans hl (by decide)) rfl)))
 have e4:bT (ae defs (n+1)) (.assign 4 (.prim .len (.cons (.loc 3) .nil))) [some (.str t),some (.bool true),some (.bytes t),some (.list (vb (ai 37 t))),none,none,none,none,none,none,none,none,none,none,none,none,none]=.next [some (.str t),some (.bool true),some (.bytes t),some (.list (vb (ai 37 t))),some (vi (ai 37 t).length),none,none,none,none,none,none,none,none,none,none,none,none]:=S.assign (E.Jj rfl)
 have go:∀ {ρ':Ρ},bT (ae defs (n+1)) (.ite (.cmp .eq (.loc 4) (.const (.int 2))) (.cons (.assign 2 (.idx (.loc 3) (.const (.int 0)))) .nil) (.cons (.ite (.cmp .gt (.loc 4) (.const (.int 2))) (.cons (.raise .syntax .nil) .nil) .nil) .nil)) [some (.str t),some (.bool true),some (.bytes t),some (.list (vb (ai 37 t))),some (vi (ai 37 t).length),none,none,none,none,none,none,none,none,none,none,none,none]=.next ρ'->
   ak (ae defs (n+1)) uZ [some (.str t),some (.bool true),none,none,none,none,none,none,none,none,none,none,none,none,none,none,none]=ak (ae defs (n+1)) jQ ρ':=fun h=>S.seq (vT ht) (S.seq ((S.aF rfl rfl).trans (S.seq e3 (S.seq e4 (S.one h)))) rfl)
 have XU:∀ {ρ':Ρ},bT (ae defs (n+1)) (.ite (.cmp .eq (.loc 4) (.const (.int 2))) (.cons (.assign 2 (.idx (.loc 3) (.const (.int 0)))) .nil) (.cons (.ite (.cmp .gt (.loc 4) (.const (.int 2))) (.cons (.raise .syntax .nil) .nil) .nil) .nil)) [some (.str t),some (.bool true),some (.bytes t),some (.list (vb (ai 37 t))),some (vi (ai 37 t).length),none,none,none,none,none,none,none,none,none,none,none,none]=.exc .syntax ρ'->
   ak (ae defs (n+1)) uZ [some (.str t),some (.bool true),none,none,none,none,none,none,none,none,none,none,none,none,none,none,none]=.exc .syntax ρ':=fun h=>S.seq (vT ht) (S.fu ((S.aF rfl rfl).trans (S.seq e3 (S.seq e4 (S.fu h)))))
 match GJ:ai 37 t with
 | []=>exact absurd GJ (dX t)
 | [a]=>
  rw[GJ] at go
  exact (congrArg SR.value (go rfl)).trans (jV t ht hn hl)
 | [a,b]=>
  refine b6 (Ww a (by rw[GJ];exact .head _)) fun q1 q2 q3=>?_
  rw[GJ] at go
  exact (congrArg SR.value (go rfl)).trans (jV a q1 q2 q3)
 | a::b::c::r=>
  rw[GJ] at XU
  refine S.k6 (XU ((S.cO (E.cmp (op:=.eq) (x:=vi (a::b::c::r).length) (y:=vi 2) rfl rfl (b5 ((e7 _ 2).trans (decide_eq_false fun q=>by cases q)))) rfl).trans (S.last.trans ((S.aF (E.cmp (op:=.gt) (x:=vi (a::b::c::r).length) (y:=vi 2) rfl rfl (b5 ((fP 2 _).trans (decide_eq_true (Nat.succ_lt_succ (Nat.succ_lt_succ (Nat.succ_pos _))))))) rfl).trans rfl))))
theorem bO {c:Nat} (r:List Nat):ai c (c::r)=[]::ai c r:=by rw[aT,if_pos rfl]
theorem aW {c:Nat}:∀ (a b:List Nat),ai c (a++c::b)=ai c a++ai c b:=by
 intro z0
 induction z0 with
 | nil=>
  exact fun b=>bO b
 | cons x r ih=>
  intro b
  rw[List.cons_append,aT,aT,ih b]
  by_cases h:x=c
  ·rw[if_pos h,if_pos h];rfl
  ·rw[if_neg h,if_neg h]
   refine bW (bU (c:=c) r) fun p ps e=>?_
   rw[e];rfl
theorem bz {c:Nat}:∀ {q:List Nat},c∉q->ai c q=[q]:=by
 intro z0
 induction z0 with
 | nil=>
  exact fun O=>rfl
 | cons x r ih=>
  intro h
  rw[aT,if_neg (fun e=>h (by rw[e];exact .head _)),ih fun e=>h (.tail _ e)]
theorem jn {c x:Nat} (hx:x≠c):∀ {t:List Nat},x∈t->∃ p∈ai c t,x∈p
 | y::r,h=>by
  refine bW (bU (c:=c) r) fun p ps e=>?_
  rw[aT]
  rcases List.mem_cons.mp h with h | h
  ·subst h
   rw[if_neg hx,e]
   exact⟨_,.head _,.head _⟩
  ·refine Exists.elim (jn hx h) fun p' zz=>aC zz fun TR Wx=>?_
   by_cases hy:y=c
   ·rw[if_pos hy];exact⟨p',.tail _ TR,Wx⟩
   ·rw[if_neg hy,e]
    rw[e] at TR
    rcases List.mem_cons.mp TR with q | q
    ·subst q;exact⟨_,.head _,.tail _ Wx⟩
    ·exact⟨p',.tail _ q,Wx⟩
set_option tactic.hygienic true in
theorem nP {m:Nat}:∀ {t:List Nat}{n:Nat},aX n t=[]->aX m t=[]
 | [],n,_=>rfl
 | x::r,n,h=>by
  rw[bR] at h ⊢
  split at h
  ·contradiction
  ·rename_i q
   rw[if_neg q]
   exact nP h
set_option tactic.hygienic true in
theorem cZ:∀ {t:List Nat}{n a:Nat}{rest:List Nat},aX n t=a::rest->∃ L R,t=L++58::58::R/\a=n+L.length/\aX n (L++[58])=[]/\rest=aX (a+1) (58::R):=by
 intro z0
 induction z0 with
 | nil=>
  intro n a rest h
  contradiction
 | cons x r ih=>
  intro n a rest h
  rw[bR] at h
  split at h
  ·rename_i q
   injection h with h zq;subst h zq
   obtain⟨rfl,q⟩:=q
   cases r with
   | nil=>cases q
   | cons y r'=>
    cases q
    exact⟨[],r',rfl,rfl,rfl,rfl⟩
  ·rename_i q
   refine bW (ih h) fun L R zz=>iZ zz fun e1 e2 e3 e4=>?_
   refine⟨x::L,R,by rw[e1];rfl,by rw[e2,List.length_cons];lia,?_,e4⟩
   rw[List.cons_append,bR,if_neg]
   ·exact e3
   ·rintro ⟨rfl,hh⟩
    refine q ⟨rfl,?_⟩
    rw[e1]
    cases L with
    | nil=>rfl
    | cons y L'=>exact hh
theorem jW {w:List Nat} (hw:aX 0 w=[]) (hh:w.head?≠some 58):∀ (X:List Nat) (n:Nat),aX n (X++w)=aX n X:=by
 intro z0
 induction z0 with
 | nil=>
  intro n
  rw[List.nil_append,nP hw];rfl
 | cons x r ih=>
  intro n
  rw[List.cons_append,bR,bR,ih]
  have:(x=58/\(r++w).head?=some 58)↔(x=58/\r.head?=some 58):=by
   cases r with
   | nil=>simp only[List.nil_append,List.head?_nil];exact⟨fun q=>absurd q.2 hh,fun q=>by cases q.2⟩
   | cons y r'=>rfl
  by_cases q:x=58/\r.head?=some 58
  ·rw[if_pos q,if_pos (this.mpr q)]
  ·rw[if_neg q,if_neg fun z=>q (this.mp z)]
theorem fH {q:List Nat} (h:58∉q):∀ n,aX n q=[]:=by
 induction q with
 | nil=>intro n;rfl
 | cons x r ih=>
  intro n
  rw[bR,if_neg fun z=>h (by rw[z.1];exact .head _)]
  exact ih (fun e=>h (.tail _ e)) _
set_option tactic.hygienic true in
theorem gP:∀ {t:List Nat}{n:Nat},aX n t=[]->t≠[]->t.head?≠some 58->t.getLast?≠some 58->[]∉ai 58 t
 | [],n,_,h,_,_=>absurd rfl h
 | [x],n,_,_,h1,_=>by
  have:x≠58:=fun e=>h1 (by rw[e];rfl)
  simp[fA,aT,this]
 | x::y::r,n,hc,_,h1,h2=>by
  have hx:x≠58:=fun e=>h1 (by rw[e];rfl)
  rw[aT,if_neg hx]
  rw[bR,if_neg fun z=>hx z.1] at hc
  rw[List.getLast?_cons_cons] at h2
  by_cases hy:y=58
  ·subst hy
   rw[bO]
   have hr:r≠[]:=fun e=>h2 (by rw[e];rfl)
   rw[bR] at hc
   split at hc
   ·contradiction
   ·rename_i q
    have hh:r.head?≠some 58:=fun e=>q ⟨rfl,e⟩
    have h3:r.getLast?≠some 58:=by
     cases r with
     | nil=>exact absurd rfl hr
     | cons z r'=>rwa [List.getLast?_cons_cons] at h2
    have ih:=gP hc hr hh h3
    intro hm
    rcases List.mem_cons.mp hm with e | e
    ·contradiction
    ·exact ih e
  ·have ih:=gP hc (by simp) (by simpa using hy) h2
   refine bW (bU (c:=58) (y::r)) fun p ps e=>?_
   rw[e] at ih ⊢
   intro hm
   rcases List.mem_cons.mp hm with q | q
   ·contradiction
   ·exact ih (.tail _ q)
theorem xV {p:List Nat} (h:4<p.length):aR p=none:=by unfold aR;rw[if_pos (.inr h)]
theorem P6 (a b c d:Nat) (s:List Nat):di (a::b::c::d::s)=match cn a,cn b,cn c,cn d with
  | some w,some x,some y,some z=>(di s).map fun g=>(w*16+x)::(y*16+z)::g
  | _,_,_,_=>none:=by
 rw[jT,jT]
 cases cn a<;>cases cn b<;>cases cn c<;>cases cn d<;>cases di s<;>rfl
theorem jX (a b c d:Nat) (s:List Nat):di (a::b::c::d::s)=match cY [a,b,c,d] 0 with
  | some v=>(di s).map fun g=>v / 256::v % 256::g
  | none=>none:=by
 rw[P6,dZ]
 cases ha:cn a with
 | none=>rfl
 | some w=>
 dsimp only[dZ,nJ]
 cases hb:cn b with
 | none=>rfl
 | some x=>
 dsimp only
 cases hc:cn c with
 | none=>rfl
 | some y=>
 dsimp only
 cases hd:cn d with
 | none=>rfl
 | some z=>
 have hy:=jR hc
 have hz:=jR hd
 dsimp only
 have e:(((0*16+w)*16+x)*16+y)*16+z=(w*16+x)*256+(y*16+z):=by lia
 have l:y*16+z<256:=by lia
 rw[e,Nat.mul_comm (w*16+x),Nat.mul_add_div (by decide),Nat.mul_add_mod,Nat.div_eq_of_lt l,Nat.mod_eq_of_lt l,Nat.add_zero]
theorem JK {p:List Nat} (h0:p≠[]) (h4:p.length<=4) (s:List Nat):di (lg p++s)=match aR p with
  | some v=>(di s).map fun g=>v / 256::v % 256::g
  | none=>none:=by
 cases p with
 | nil=>exact absurd rfl h0
 | cons a p=>
 cases p with
 | nil=>exact (jX 48 48 48 a s).trans (by kernel_rfl)
 | cons b p=>
 cases p with
 | nil=>exact (jX 48 48 a b s).trans (by kernel_rfl)
 | cons c p=>
 cases p with
 | nil=>exact (jX 48 a b c s).trans (by kernel_rfl)
 | cons d p=>
 cases p with
 | nil=>exact (jX a b c d s).trans (by kernel_rfl)
 | cons _ _=>exact absurd h4 (by simp)
theorem dz (p:List Nat) (r:List (List Nat)):bK (p::r) false=match aR p with
  | some v=>(bK r false).map (v::·)
  | none=>none:=by
 rw[fR]
 cases aR p with
 | some v=>rfl
 | none=>simp
theorem nQ:∀ (ps:List (List Nat)) (s:List Nat),(∀ p∈ps,p≠[]/\p.length<=4)->di ((ps.map lg).flatten++s)=match bK ps false with
  | some g=>(di s).map fun t=>aK g++t
  | none=>none:=by
 intro z0
 induction z0 with
 | nil=>
  intro s _
  show di s=(di s).map fun t=>t
  cases di s<;>rfl
 | cons p r ih=>
  intro s h
  rw[List.map_cons,List.flatten_cons,List.append_assoc,JK (h p (.head _)).1 (h p (.head _)).2,ih s fun q hq=>h q (.tail _ hq),dz]
  cases aR p with
  | none=>rfl
  | some v=>
   cases bK r false with
   | none=>rfl
   | some g=>skip;cases di s<;>rfl
theorem A1 (s:List Nat):∀ k:Nat,di ((List.replicate k [48,48,48,48]).flatten++s)=(di s).map fun t=>aK (List.replicate k 0)++t:=by
 intro z0
 induction z0 with
 | zero=>
  show di s=(di s).map fun t=>t
  cases di s<;>rfl
 | succ k ih=>
  rw[List.replicate_succ,List.flatten_cons,List.append_assoc]
  show di (48::48::48::48::((List.replicate k [48,48,48,48]).flatten++s))=_
  rw[P6,show cn 48=some 0 from rfl,ih,List.replicate_succ]
  cases di s<;>rfl
theorem nR:∀ {ps:List (List Nat)}{g:List Nat},bK ps false=some g->g.length=ps.length:=by
 intro z0
 induction z0 with
 | nil=>
  intro g h
  injection h with h;subst h;rfl
 | cons p r ih=>
  intro g h
  rw[dz] at h
  cases hv:aR p with
  | none=>rw[hv] at h;contradiction
  | some v=>
   rw[hv] at h
   cases hq:bK r false with
   | none=>rw[hq] at h;contradiction
   | some g'=>rw[hq] at h;injection h with h;subst h;simp[ih hq]
theorem gQ {e:Bool}:∀ {ps:List (List Nat)}{p:List Nat},p∈ps->aR p=none->aI p=[]->bK ps e=none
 | q::r,p,h,hv,hq=>by
  rw[fR]
  rcases List.mem_cons.mp h with z | z
  ·subst z
   rw[hv]
   dsimp only
   rw[if_neg fun z=>z.1 hq]
  ·cases V0:aR q with
   | some v=>rw[gQ z hv hq];rfl
   | none=>
    dsimp only
    rw[if_neg]
    rintro ⟨_,_,rfl⟩
    contradiction
theorem lj {ps:List (List Nat)}{p:List Nat} (h:p∈ps) (hl:4<p.length):bK ps false=none:=by
 induction ps with
 | nil=>cases h
 | cons q r ih=>
  rw[dz]
  rcases List.mem_cons.mp h with z | z
  ·rw[<- z,xV hl]
  ·rw[ih z];cases aR q<;>rfl
theorem ll {l:Nat}:∀ (A rest:List (List Nat)) (seen:Bool) (acc:List (List Nat)),[]∉A->cP l (A++rest) seen acc=if ∀ c∈A,c.length<=4 then cP l rest seen (acc++A.map lg) else none:=by
 intro z0
 induction z0 with
 | nil=>
  intro rest seen acc _
  rw[if_pos (fun c h=>by contradiction)];simp
 | cons c A ih=>
  intro rest seen acc h
  have hc:c≠[]:=fun e=>h (by rw[e];exact .head _)
  rw[List.cons_append,dk,if_neg hc]
  by_cases h4:4<c.length
  ·rw[if_pos h4,if_neg fun z=>absurd (z c (.head _)) (by lia)]
  ·rw[if_neg h4,ih rest seen _ fun e=>h (.tail _ e)]
   have:(∀ d∈c::A,d.length<=4)↔∀ d∈A,d.length<=4:=⟨fun z d hd=>z d (.tail _ hd),fun z d hd=>by
    rcases List.mem_cons.mp hd with rfl | hd
    ·lia
    ·exact z d hd⟩
   by_cases q:∀ d∈A,d.length<=4
   ·rw[if_pos q,if_pos (this.mpr q)];simp
   ·rw[if_neg q,if_neg fun z=>q (this.mp z)]
theorem oY {l:Nat}:∀ (B acc:List (List Nat)),[]∈B->cP l B true acc=none
 | c::B,acc,h=>by
  rw[dk]
  by_cases hc:c=[]
  ·rw[if_pos hc,if_pos rfl]
  ·rw[if_neg hc]
   have:[]∈B:=by
    rcases List.mem_cons.mp h with e | e
    ·exact absurd e.symm hc
    ·exact e
   split
   ·rfl
   ·exact oY B _ this
theorem A2 {l:Nat}{B:List (List Nat)} (hB:[]∈B):∀ (A:List (List Nat)) (seen:Bool) (acc:List (List Nat)),cP l (A++[]::B) seen acc=none:=by
 intro z0
 induction z0 with
 | nil=>
  intro seen acc
  rw[List.nil_append,dk,if_pos rfl]
  split
  ·rfl
  ·exact oY B _ hB
 | cons c A ih=>
  intro seen acc
  rw[List.cons_append,dk]
  split
  ·split
   ·rfl
   ·exact ih true _
  ·split
   ·rfl
   ·exact ih seen _
theorem nT {A B:List (List Nat)} (hB:[]∈B):gx (A++[]::B)=none:=by
 unfold gx
 split
 ·rfl
 ·rw[A2 hB]
theorem GK {A:List (List Nat)} (h:[]∉A):gx A=(match bK A false with
  | some g=>if g.length=8 then some g else none
  | none=>none).map aK:=by
 unfold gx
 have hA:=ll (l:=A.length) A [] false [] h
 rw[List.append_nil] at hA
 rw[hA]
 by_cases h4:∀ c∈A,c.length<=4
 ·rw[if_pos h4]
  show (if 8<A.length then none else if A.length<8/\false=false then none else di (([]:List (List Nat))++A.map lg).flatten)=_
  have hx:=nQ A [] fun p hp=>⟨fun e=>h (by rw[<- e];exact hp),h4 p hp⟩
  rw[List.append_nil] at hx
  rw[List.nil_append,hx]
  cases hq:bK A false with
  | none=>
   split
   ·rfl
   ·split<;>rfl
  | some g=>
   have hl:=nR hq
   dsimp only
   rw[hl]
   by_cases h8:A.length=8
   ·rw[if_neg (by omega),if_neg (by omega),if_pos h8]
    simp[xT]
   ·rw[if_neg h8]
    split
    ·rfl
    ·rw[if_pos ⟨by omega,rfl⟩];rfl
 ·rw[if_neg h4]
  have:bK A false=none:=by
   have:∃ c∈A,4<c.length:=Classical.byContradiction fun q=>h4 fun c hc=>Nat.le_of_not_lt fun z=>q ⟨c,hc,z⟩
   refine Exists.elim this fun c zz=>aC zz fun hc hl=>?_
   exact lj hc hl
  rw[this]
  split<;>rfl
theorem nU {A B:List (List Nat)} (hA:[]∉A) (hB:[]∉B):gx (A++[]::B)=(match bK A false,bK B false with
  | some l,some r=>if l.length+r.length<=7 then some (l++List.replicate (8 - l.length - r.length) 0++r) else none
  | _,_=>none).map aK:=by
 unfold gx
 have hlen:(A++[]::B).length=A.length+B.length+1:=by rw[List.length_append,List.length_cons];lia
 rw[hlen,ll A _ false [] hA]
 by_cases h4:∀ c∈A,c.length<=4
 ·rw[if_pos h4,dk,if_pos rfl,if_neg Bool.false_ne_true]
  have hb:=ll (l:=A.length+B.length+1) B [] true ([]++A.map lg++List.replicate (9 - (A.length+B.length+1)) [48,48,48,48]) hB
  rw[List.append_nil] at hb
  rw[hb]
  by_cases h5:∀ c∈B,c.length<=4
  ·rw[if_pos h5]
   show (if 8<A.length+B.length+1 then none else if A.length+B.length+1<8/\true=false then none else di (([]:List (List Nat))++A.map lg++List.replicate (9 - (A.length+B.length+1)) [48,48,48,48]++B.map lg).flatten)=_
   rw[if_neg (show ¬ (A.length+B.length+1<8/\true=false) from fun q=>by cases q.2)]
   rw[List.nil_append,List.flatten_append,List.flatten_append,List.append_assoc,nQ A _ fun p hp=>⟨fun e=>hA (by rw[<- e];exact hp),h4 p hp⟩,A1]
   have hx:=nQ B [] fun p hp=>⟨fun e=>hB (by rw[<- e];exact hp),h5 p hp⟩
   rw[List.append_nil] at hx
   rw[hx]
   cases hq:bK A false with
   | none=>split<;>rfl
   | some g=>
    cases hr:bK B false with
    | none=>split<;>rfl
    | some k=>
     have hl:=nR hq
     have A0:=nR hr
     dsimp only
     rw[hl,A0]
     by_cases h7:A.length+B.length<=7
     ·rw[if_neg (by omega),if_pos h7,show 9 - (A.length+B.length+1)=8 - A.length - B.length by omega]
      simp[xT,oW]
     ·rw[if_pos (by omega),if_neg h7];rfl
  ·rw[if_neg h5]
   have:bK B false=none:=by
    have:∃ c∈B,4<c.length:=Classical.byContradiction fun q=>h5 fun c hc=>Nat.le_of_not_lt fun z=>q ⟨c,hc,z⟩
    refine Exists.elim this fun c zz=>aC zz fun hc hl=>?_
    exact lj hc hl
   rw[this]
   cases bK A false<;>split<;>rfl
 ·rw[if_neg h4]
  have:bK A false=none:=by
   have:∃ c∈A,4<c.length:=Classical.byContradiction fun q=>h4 fun c hc=>Nat.le_of_not_lt fun z=>q ⟨c,hc,z⟩
   refine Exists.elim this fun c zz=>aC zz fun hc hl=>?_
   exact lj hc hl
  rw[this]
  split<;>rfl
noncomputable def rj (t:List Nat):Option (List Nat):=match aX 0 t with
 | []=>(match bK (ai 58 t) false with
  | some g=>if g.length=8 then some g else none
  | none=>none)
 | [a]=>(match a8 (t.take a) false,a8 (t.drop (a+2)) false with
  | some l,some r=>if l.length+r.length<=7 then some (l++List.replicate (8 - l.length - r.length) 0++r) else none
  | _,_=>none)
 | _=>none
theorem TS (t:List Nat):([58]:List Nat).isPrefixOf t=true↔t.head?=some 58:=by
 rw[List.isPrefixOf_iff_prefix]
 cases t with
 | nil=>exact⟨fun ⟨s,e⟩=>(by contradiction),fun e=>(by contradiction)⟩
 | cons a r=>exact⟨fun ⟨s,e⟩=>(by injection e with e;subst e;rfl),fun e=>(by injection e with e;subst e;exact⟨r,rfl⟩)⟩
theorem GL (t:List Nat):([58,58]:List Nat).isPrefixOf t=true↔∃ r,t=58::58::r:=by
 rw[List.isPrefixOf_iff_prefix]
 exact⟨fun ⟨s,e⟩=>⟨s,e.symm⟩,fun ⟨s,e⟩=>⟨s,e.symm⟩⟩
theorem xW {b:Bool}{p:Prop} (h:b=true↔p) (n:¬ p):b=false:=by
 rw[Bool.eq_false_iff];exact fun q=>n (h.mp q)
theorem gi (p t:List Nat):p.isSuffixOf t=true↔∃ s,t=s++p:=by
 rw[List.isSuffixOf_iff_suffix]
 exact⟨fun ⟨s,e⟩=>⟨s,e.symm⟩,fun ⟨s,e⟩=>⟨s,e.symm⟩⟩
theorem gR (t:List Nat):t.getLast?=some 58↔∃ s,t=s++[58]:=List.getLast?_eq_some_iff
structure C9 (t:List Nat):Prop where
 ne:t≠[]
 two:t≠[58,58]
 st:t.head?=some 58->∃ r,t=58::58::r
 en:t.getLast?=some 58->∃ s,t=s++[58,58]
theorem JL {t:List Nat} (h0:t≠[]) (h1:rg t=false) (h2:mn t=false) (h3:t≠[58,58]):C9 t:=by
 refine⟨h0,h3,fun h=>?_,fun h=>?_⟩
 ·unfold mn at h2
  rw[(TS t).mpr h,Bool.true_and,Bool.not_eq_false'] at h2
  exact (GL t).mp h2
 ·unfold rg at h1
  rw[(gi _ _).mpr ((gR t).mp h),Bool.true_and,Bool.not_eq_false'] at h1
  exact (gi _ _).mp h1
theorem d8 {L R:List Nat}:∀ n,aX n (L++58::58::R)≠[]:=by
 induction L with
 | nil=>intro n h;rw[List.nil_append,bR,if_pos ⟨rfl,rfl⟩] at h;contradiction
 | cons x r ih=>
  intro n h
  rw[List.cons_append,bR] at h
  split at h
  ·contradiction
  ·exact ih _ h
theorem A3 {r:List Nat}:ai 58 r=(ai 58 (58::r)).tail:=by rw[bO];rfl
theorem A4 (s:List Nat):ai 58 s=(ai 58 (s++[58])).dropLast:=by
 have:=aW (c:=58) s []
 rw[this]
 show _=(ai 58 s++[[]]).dropLast
 rw[List.dropLast_concat]
theorem JM {t:List Nat}{a b:Nat}{r:List Nat} (h:aX 0 t=a::b::r):∃ X Y Z:List (List Nat),ai 58 t=X++[]::(Y++[]::Z)/\X≠[]/\Z≠[]:=by
 refine bW (cZ h) fun L R zz=>iZ zz fun e1 e2 e3 e4=>?_
 refine bW (cZ e4.symm) fun L' R' zz=>iZ zz fun f1 f2 f3 f4=>?_
 have s1:ai 58 t=ai 58 L++[]::ai 58 R:=by rw[e1,aW,bO]
 cases L' with
 | nil=>
  have hR:R=58::R':=by simpa using f1
  refine⟨ai 58 L,[],ai 58 R',?_,dX L,dX R'⟩
  rw[s1,hR,bO];rfl
 | cons x TV=>
  have hR:R=TV++58::58::R':=by
   have:=congrArg List.tail f1
   simpa using this
  refine⟨ai 58 L,ai 58 TV,ai 58 R',?_,dX L,dX R'⟩
  rw[s1,hR,aW,bO]
set_option tactic.hygienic true in
theorem jo {t:List Nat} (E:C9 t):uj t=(rj t).map aK:=by
 unfold uj rj
 match hc:aX 0 t with
 | []=>
  have np:([58,58]:List Nat).isPrefixOf t=false:=by
   refine xW (GL t) ?_
   rintro ⟨r,rfl⟩
   exact d8 (L:=[]) 0 hc
  have ns:([58,58]:List Nat).isSuffixOf t=false:=by
   rw[Bool.eq_false_iff]
   intro q
   refine Exists.elim ((gi _ _).mp q) fun s aw=>?_;subst aw
   exact d8 (L:=s) 0 hc
  have rm:dr t=t:=by unfold dr;rw[np,ns];rfl
  have au:[]∉ai 58 t:=gP hc E.ne (fun h=>by
   refine Exists.elim (E.st h) fun r aw=>?_;subst aw
   exact d8 (L:=[]) 0 hc) fun h=>by
   refine Exists.elim (E.en h) fun s aw=>?_;subst aw
   exact d8 (L:=s) 0 hc
  rw[rm,GK au]
  try rfl
 | a::b::r=>
  refine eR (JM hc) fun X Y Z zz=>b6 zz fun e hX hZ=>?_
  show gx _=none
  have XW:∃ x X',X=x::X':=by
   cases X with
   | nil=>exact absurd rfl hX
   | cons x X'=>exact⟨x,X',rfl⟩
  refine bW XW fun x X' aw=>?_;try clear XW;subst aw
  unfold dr
  split
  ·rename_i q
   refine Exists.elim ((GL t).mp q) fun r' aw=>?_;subst aw
   rw[List.drop_one,List.tail_cons,A3,e]
   show gx (X'++[]::(Y++[]::Z))=none
   exact nT (List.mem_append_right _ (.head _))
  ·split
   ·rename_i q
    refine Exists.elim ((gi _ _).mp q) fun s aw=>?_;subst aw
    have:(s++[58,58]).take ((s++[58,58]).length - 1)=s++[58]:=by
     rw[show s++[58,58]=(s++[58])++[58] by simp,List.length_append,List.length_singleton,Nat.add_sub_cancel,List.take_left']
     rfl
    rw[this,A4,show s++[58]++[58]=s++[58,58] by simp,e]
    have:(x::X'++[]::(Y++[]::Z)).dropLast=x::X'++[]::(Y++[]::Z.dropLast):=by
     rw[show x::X'++[]::(Y++[]::Z)=(x::X'++[]::(Y++[[]]))++Z by simp,List.dropLast_append_of_ne_nil hZ]
     simp
    rw[this]
    exact nT (List.mem_append_right _ (.head _))
   ·rw[e]
    exact nT (List.mem_append_right _ (.head _))
 | [a]=>
  refine bW (cZ hc) fun L R zz=>iZ zz fun e1 e2 e3 e4=>?_
  rw[Nat.zero_add] at e2
  have rn:t.take a=L:=by rw[e1,e2,List.take_left]
  have ro:t.drop (a+2)=R:=by rw[e1,e2,<- List.drop_drop,List.drop_left];rfl
  dsimp only
  rw[rn,ro]
  have hL:L≠[]->[]∉ai 58 L:=fun hn=>by
   have XX:L.getLast?≠some 58:=fun q=>by
    refine Exists.elim ((gR L).mp q) fun s aw=>?_;subst aw
    rw[List.append_assoc] at e3
    exact d8 (L:=s) (R:=[]) 0 e3
   refine gP (n:=0) ?_ hn (fun q=>?_) XX
   ·match Wy:aX 0 L with
    | []=>rfl
    | c::rr=>
     refine bW (cZ Wy) fun L1 R1 zz=>aC zz fun g1 O=>?_
     rw[g1] at e3
     simp only[List.append_assoc,List.cons_append] at e3
     exact absurd e3 (d8 0)
   ·have:t.head?=some 58:=by rw[e1];cases L with
     | nil=>exact absurd rfl hn
     | cons x L'=>simpa using q
    refine Exists.elim (E.st this) fun r hr=>?_
    rw[e1] at hr
    cases L with
    | nil=>exact hn rfl
    | cons x L'=>
     cases L' with
     | nil=>
      have hx:x=58:=by simpa using q
      exact XX (by rw[hx];rfl)
     | cons y TV=>
      simp at hr
      refine b6 hr fun aw gS O=>?_;try clear hr;subst aw;subst gS
      exact d8 (L:=[]) (R:=TV++[58]) 0 (show aX 0 ([]++58::58::(TV++[58]))=[] from e3)
  have hR:R≠[]->[]∉ai 58 R:=fun hn=>by
   have e5:=e4.symm
   rw[bR] at e5
   split at e5
   ·contradiction
   ·rename_i q
    refine gP e5 hn (fun z=>q ⟨rfl,z⟩) fun z=>?_
    have:t.getLast?=some 58:=by
     rw[e1]
     refine Exists.elim ((gR R).mp z) fun s aw=>?_;subst aw
     exact (gR _).mpr ⟨L++58::58::s,by simp⟩
    refine Exists.elim (E.en this) fun s hs=>?_
    refine Exists.elim ((gR R).mp z) fun s2 aw=>?_;subst aw
    rcases List.eq_nil_or_concat s2 with rfl | ⟨s3,y,rfl⟩
    ·exact q ⟨rfl,rfl⟩
    ·have h1:L++58::58::(s3++[y])++[58]=s++[58]++[58]:=by rw[e1] at hs;simpa using hs
     have h2:=(List.append_inj' h1 rfl).1
     have h3:L++58::58::s3++[y]=s++[58]:=by simpa using h2
     have h4:=(List.append_inj' h3 rfl).2
     have hy:y=58:=by simpa using h4
     subst hy
     have h5:s3++[58]++[58]=s3++58::58::[]:=by simp
     rw[List.concat_eq_append,h5] at e5
     exact d8 _ e5
  by_cases hLn:L=[]
  ·subst hLn
   have P7:R≠[]:=fun q=>E.two (by rw[e1,q];rfl)
   have np:([58,58]:List Nat).isPrefixOf t=true:=(GL t).mpr ⟨R,e1⟩
   have rm:dr t=58::R:=by unfold dr;rw[np,if_pos rfl,e1];rfl
   rw[rm,bO]
   have:=nU (A:=[]) (B:=ai 58 R) (by simp) (hR P7)
   rw[List.nil_append] at this
   rw[this]
   unfold a8
   rw[if_pos rfl,if_neg P7];rfl
  ·have np:([58,58]:List Nat).isPrefixOf t=false:=by
    refine xW (GL t) ?_
    rintro ⟨r,hr⟩
    have TX:=hL hLn
    rw[e1] at hr
    cases L with
    | nil=>exact hLn rfl
    | cons x L'=>
     have hx:x=58:=by simpa using congrArg List.head? hr
     subst hx
     rw[bO] at TX
     exact TX (.head _)
   by_cases P7:R=[]
   ·subst P7
    have ns:([58,58]:List Nat).isSuffixOf t=true:=(gi _ _).mpr ⟨L,e1⟩
    have rm:dr t=L++[58]:=by
     unfold dr
     rw[np,ns,if_neg Bool.false_ne_true,if_pos rfl,e1]
     rw[show L++[58,58]=(L++[58])++[58] by simp,List.length_append,List.length_singleton,Nat.add_sub_cancel,List.take_left']
     rfl
    rw[rm,aW]
    have:=nU (A:=ai 58 L) (B:=[]) (hL hLn) (by simp)
    rw[show ai 58 ([]:List Nat)=[[]] from rfl,this]
    unfold a8
    rw[if_pos rfl,if_neg hLn];rfl
   ·have ns:([58,58]:List Nat).isSuffixOf t=false:=by
     rw[Bool.eq_false_iff]
     intro q
     refine Exists.elim ((gi _ _).mp q) fun s hs=>?_
     have TX:=hR P7
     have:R.getLast?=some 58:=by
      have h1:t.getLast?=some 58:=by rw[hs];simp
      rcases List.eq_nil_or_concat R with h2 | ⟨R2,z,h2⟩
      ·exact absurd h2 P7
      ·rw[e1,h2,List.concat_eq_append,show L++58::58::(R2++[z])=(L++58::58::R2)++[z] by simp,List.getLast?_concat] at h1
       rw[h2,List.concat_eq_append,List.getLast?_concat]
       exact h1
     refine Exists.elim ((gR R).mp this) fun s' aw=>?_;subst aw
     rw[aW] at TX
     exact TX (List.mem_append_right _ (.head _))
    have rm:dr t=t:=by unfold dr;rw[np,ns];rfl
    rw[rm,e1,aW,bO,nU (hL hLn) (hR P7)]
    unfold a8
    rw[if_neg hLn,if_neg P7]
    try rfl
theorem fI (p:List Nat) (r:List (List Nat)) (e:Bool):bK (p::r) e=(match aR p with | some v=>(bK r e).map (v::·) | none=>if aI p≠[]/\e=true/\r=[] then some (nK (aI p)) else none):=by rw[fR];try rfl
theorem um:∀ {ps:List (List Nat)},(∀ q,ps.getLast?=some q->aI q=[])->bK ps true=bK ps false:=by
 intro z0
 induction z0 with
 | nil=>
  exact fun O=>rfl
 | cons p r ih=>
  intro h
  rw[fR,dz]
  cases hv:aR p with
  | none=>
   rw[if_neg]
   rintro ⟨h1,_,rfl⟩
   exact h1 (h p rfl)
  | some v=>
   rw[ih fun q hq=>h q (by
    cases r with
    | nil=>contradiction
    | cons y r'=>rwa [List.getLast?_cons_cons])]
theorem lq {t L R q:List Nat} (e:t=L++58::58::R) (h:(ai 58 t).getLast?=some q):(ai 58 R).getLast?=some q:=by
 rw[e,aW,bO] at h
 have:ai 58 L++[]::ai 58 R=(ai 58 L++[[]])++ai 58 R:=by simp
 rw[this] at h
 rcases List.eq_nil_or_concat (ai 58 R) with h2 | ⟨ps,p,h2⟩
 ·exact absurd h2 (dX R)
 ·rw[h2,List.concat_eq_append,<- List.append_assoc,List.getLast?_concat] at h
  rw[h2,List.concat_eq_append,List.getLast?_concat]
  exact h
theorem xX {ps:List (List Nat)}{q:List Nat} (h:ps.getLast?=some q):q∈ps:=List.mem_of_getLast? h
theorem uo {t q:List Nat} (h:(ai 58 t).getLast?=some q) (hv:aR q=none) (hq:aI q=[]) (hR:∀ L R,t=L++58::58::R->R≠[]):bB t=none:=by
 unfold bB
 match hc:aX 0 t with
 | a::b::r=>rfl
 | []=>
  dsimp only
  by_cases h0:t=[]
  ·subst h0;rfl
  ·unfold a8
   rw[if_neg h0,gQ (xX h) hv hq]
 | [a]=>
  refine bW (cZ hc) fun L R zz=>iZ zz fun e1 e2 e3 e4=>?_
  rw[Nat.zero_add] at e2
  have ro:t.drop (a+2)=R:=by rw[e1,e2,<- List.drop_drop,List.drop_left];rfl
  have hn:=hR L R e1
  have:a8 R true=none:=by
   unfold a8
   rw[if_neg hn,gQ (xX (lq e1 h)) hv hq]
  dsimp only
  rw[ro,this]
  cases a8 (t.take a) false<;>rfl
theorem A5 {t q:List Nat} (h0:t≠[]) (h:(ai 58 t).getLast?=some q) (hq:aI q=[]):bB t=rj t:=by
 unfold bB rj
 match hc:aX 0 t with
 | a::b::r=>rfl
 | []=>
  dsimp only
  unfold a8
  rw[if_neg h0,um fun p hp=>by rw[h] at hp;injection hp with hp;subst hp;exact hq]
  try rfl
 | [a]=>
  refine bW (cZ hc) fun L R zz=>iZ zz fun e1 e2 e3 e4=>?_
  rw[Nat.zero_add] at e2
  have ro:t.drop (a+2)=R:=by rw[e1,e2,<- List.drop_drop,List.drop_left];rfl
  have:a8 R true=a8 R false:=by
   unfold a8
   split
   ·rfl
   ·rw[um fun p hp=>by rw[lq e1 h] at hp;injection hp with hp;subst hp;exact hq]
  dsimp only
  rw[ro,this]
  try rfl
theorem rq {c:Nat} (hc:cn c=none):∀ {p:List Nat} (v:Nat),c∈p->cY p v=none
 | x::r,v,h=>by
  rw[dZ]
  rcases List.mem_cons.mp h with e | e
  ·rw[<- e,hc]
  ·cases cn x with
   | none=>rfl
   | some d=>exact rq hc _ e
theorem rt {c:Nat} (hc:cn c=none) {p:List Nat} (h:c∈p):aR p=none:=by
 unfold aR
 split
 ·rfl
 ·exact rq hc _ h
set_option tactic.hygienic true in
theorem iB {q:List Nat} (h:aI q≠[]):qZ q:=by
 rw[dY] at h
 split at h
 ·rename_i z
  refine⟨z.1,fun p hp=>?_⟩
  have:=((mj p).mp (z.2 p hp)).1
  unfold jj at this
  rw[Bool.and_eq_true] at this
  exact this.1
 ·exact absurd rfl h
theorem mr {q:List Nat} (h:qZ q):46∈q:=by
 refine Classical.byContradiction fun z=>?_
 have:=h.1
 rw[bz z] at this
 cases this
theorem fS {q:List Nat} (h:qZ q):aR q=none:=rt (c:=46) rfl (mr h)
theorem jq {n:Nat} (h:n<16):cn (dE n)=some n/\dE n≠58:=by
 have:∀ n:Fin 16,cn (dE n.1)=some n.1/\dE n.1≠58:=by decide +kernel
 exact this ⟨n,h⟩
theorem uq {a b:Nat} (ha:a<256) (hb:b<256):aR (hex2 a++hex2 b)=some (a*256+b):=by
 show aR [dE (a / 16),dE (a % 16),dE (b / 16),dE (b % 16)]=_
 unfold aR
 rw[if_neg (by simp)]
 rw[fD (jq (show a / 16<16 by lia)).1,fD (jq (show a % 16<16 by lia)).1,fD (jq (show b / 16<16 by lia)).1,fD (jq (show b % 16<16 by lia)).1,nJ]
 congr 1
 lia
theorem nV {q h1 h2:List Nat}{a b c d:Nat} (hv:aR q=none) (hq:aI q=[a,b,c,d]) (e1:aR h1=some (a*256+b)) (e2:aR h2=some (c*256+d)):∀ ps:List (List Nat),bK (ps++[q]) true=bK (ps++[h1,h2]) false:=by
 intro z0
 induction z0 with
 | nil=>
  rw[List.nil_append,List.nil_append,fR,hv,dz,e1,dz,e2,hq]
  rfl
 | cons p r ih=>
  rw[List.cons_append,List.cons_append,fR,dz,ih]
  cases aR p with
  | some v=>rfl
  | none=>
   rw[if_neg]
   rintro ⟨_,_,z⟩
   exact List.cons_ne_nil _ _ (List.append_eq_nil_iff.mp z).2
structure TY (w h1 h2:List Nat):Prop where
 split:ai 58 w=[h1,h2]
 cuts:aX 0 w=[]
 head:w.head?≠some 58
 last:w.getLast?≠some 58
 ne:w≠[]
theorem Wz {a b c d:Nat} (ha:a<256) (hb:b<256) (hc:c<256) (hd:d<256):TY (eP [a,b,c,d]) (hex2 a++hex2 b) (hex2 c++hex2 d):=by
 have n:∀ v,v<256->dE (v / 16)≠58/\dE (v % 16)≠58:=fun v hv=>⟨(jq (by lia)).2,(jq (by lia)).2⟩
 refine aC (n a ha) fun a1 a2=>?_
 refine aC (n b hb) fun b1 b2=>?_
 refine aC (n c hc) fun c1 c2=>?_
 refine aC (n d hd) fun d1 d2=>?_
 refine⟨?_,?_,?_,?_,?_⟩
 ·simp[eH,hex2,fA,aT,a1,a2,b1,b2,c1,c2,d1,d2]
 ·simp[eH,hex2,Jy,bR,a1,a2,b1,b2,c1,c2,d1,d2]
 ·simp[eH,hex2,a1]
 ·simp[eH,hex2,d2]
 ·simp[eH,hex2]
theorem GN {m q w h1 h2:List Nat}{a b c d:Nat} (sN:58∉q) (Ro:q≠[]) (hv:aR q=none) (hq:aI q=[a,b,c,d]) (e1:aR h1=some (a*256+b)) (e2:aR h2=some (c*256+d)) (W:TY w h1 h2) :
  bB (m++58::q)=rj (m++58::w):=by
 have Y4:q.head?≠some 58:=fun z=>by
  cases q with
  | nil=>contradiction
  | cons x r=>exact sN (by simp at z;rw[z];exact .head _)
 have cq:aX 0 (m++58::q)=aX 0 (m++[58]):=by
  rw[show m++58::q=(m++[58])++q by simp];exact jW (fH sN 0) Y4 _ _
 have cw:aX 0 (m++58::w)=aX 0 (m++[58]):=by
  rw[show m++58::w=(m++[58])++w by simp];exact jW W.cuts W.head _ _
 unfold bB rj
 rw[cq,cw]
 match hc:aX 0 (m++[58]) with
 | x::y::r=>rfl
 | []=>
  dsimp only
  unfold a8
  rw[if_neg (by simp),aW,aW,bz sN,W.split,nV hv hq e1 e2]
  try rfl
 | [x]=>
  refine bW (cZ hc) fun L R0 zz=>iZ zz fun f1 f2 f3 f4=>?_
  rw[Nat.zero_add] at f2
  have t1:m++58::q=L++58::58::(R0++q):=by
   rw[show m++58::q=(m++[58])++q by simp,f1];simp
  have t2:m++58::w=L++58::58::(R0++w):=by
   rw[show m++58::w=(m++[58])++w by simp,f1];simp
  have hR:a8 (R0++q) true=a8 (R0++w) false:=by
   unfold a8
   rw[if_neg (fun z=>Ro (List.append_eq_nil_iff.mp z).2),if_neg (fun z=>W.ne (List.append_eq_nil_iff.mp z).2)]
   rcases List.eq_nil_or_concat R0 with z | ⟨R1,y,z⟩
   ·subst z
    rw[List.nil_append,List.nil_append,bz sN,W.split]
    exact nV hv hq e1 e2 []
   ·rw[List.concat_eq_append] at z
    have:y=58:=by
     rw[z,show L++58::58::(R1++[y])=(L++58::58::R1)++[y] by simp] at f1
     have:=(List.append_inj' f1 rfl).2
     simpa using this.symm
    subst this
    rw[z,List.append_assoc,List.append_assoc]
    show bK (ai 58 (R1++58::q)) true=bK (ai 58 (R1++58::w)) false
    rw[aW,aW,bz sN,W.split,nV hv hq e1 e2]
  have d1:(m++58::q).take x=L:=by rw[t1,f2,List.take_left]
  have d2:(m++58::w).take x=L:=by rw[t2,f2,List.take_left]
  have d3:(m++58::q).drop (x+2)=R0++q:=by rw[t1,f2,<- List.drop_drop,List.drop_left];rfl
  have d4:(m++58::w).drop (x+2)=R0++w:=by rw[t2,f2,<- List.drop_drop,List.drop_left];rfl
  dsimp only
  rw[d1,d2,d3,d4,hR]
  try rfl
theorem GO {t:List Nat} (E:C9 t):JG t=(bB t).map aK:=by
 unfold JG Ri
 cases hL:jl t with
 | none=>
  dsimp only
  have sN:=qY hL
  have hc:=fH sN 0
  rw[jo E]
  have GJ:=bz sN
  unfold bB rj
  rw[hc]
  dsimp only
  unfold a8
  rw[if_neg E.ne,GJ,dz,fI]
  cases hv:aR t with
  | some v=>rfl
  | none=>
   dsimp only
   by_cases hq:aI t≠[]/\true=true/\([]:List (List Nat))=[]
   ·rw[if_pos hq]
    refine kR (dF hq.1) fun a b c d zz=>aC zz fun z O=>?_
    rw[z];rfl
   ·rw[if_neg hq]
 | some p=>
  obtain⟨m,q⟩:=p
  refine aC (k9 hL) fun e1 sN=>?_
  have xY:(ai 58 t).getLast?=some q:=by rw[e1,aW,bz sN,List.getLast?_concat]
  dsimp only
  by_cases TZ:qZ q
  ·rw[if_pos TZ]
   dsimp only
   have Ro:q≠[]:=fun z=>by have:=mr TZ;rw[z] at this;contradiction
   have hv:=fS TZ
   by_cases hz:aI q=[]
   ·rw[if_pos hz,uo xY hv hz]
    ·rfl
    ·intro L R z hR
     have:=lq z xY
     rw[hR] at this
     injection this with this;subst this
     exact Ro rfl
   ·rw[if_neg hz]
    refine kR (dF hz) fun a b c d zz=>p4 zz fun hq ha hb hc hd=>?_
    have W:=Wz ha hb hc hd
    rw[hq]
    have E':C9 (m++58::eP [a,b,c,d]):=by
     refine⟨by simp,fun z=>?_,fun z=>?_,fun z=>?_⟩
     ·have:=congrArg List.length z
      simp[eH,hex2] at this
     ·cases m with
      | nil=>
       have:t.head?=some 58:=by rw[e1];rfl
       refine Exists.elim (E.st this) fun r hr=>?_
       rw[e1] at hr
       simp at hr
       exact absurd (by rw[hr];exact .head _) sN
      | cons x m'=>
       have hx:x=58:=by simpa using z
       have:t.head?=some 58:=by rw[e1,hx];rfl
       refine Exists.elim (E.st this) fun r hr=>?_
       rw[e1] at hr
       cases m' with
       | nil=>exact⟨_,by rw[hx];rfl⟩
       | cons y m''=>
        simp at hr
        exact⟨_,by rw[hr.1,hr.2.1];rfl⟩
     ·exfalso
      rcases List.eq_nil_or_concat (eP [a,b,c,d]) with h2 | ⟨w2,y,h2⟩
      ·exact W.ne h2
      ·have hl:=W.last
       rw[h2,List.concat_eq_append] at z hl
       rw[List.getLast?_concat] at hl
       rw[show m++58::(w2++[y])=(m++58::w2)++[y] by simp,List.getLast?_concat] at z
       exact hl z
    rw[jo E',e1,GN sN Ro hv hq (uq ha hb) (uq hc hd) W]
  ·rw[if_neg TZ]
   dsimp only
   have hz:aI q=[]:=Classical.byContradiction fun z=>TZ (iB z)
   rw[jo E,A5 E.ne xY hz]
theorem iC (t:List Nat):coreS t=(bB t).map aK:=by
 unfold coreS
 by_cases h0:t=[]
 ·subst h0;rfl
 ·rw[if_neg h0]
  cases h1:rg t with
  | true=>
   rw[if_pos rfl]
   unfold rg at h1
   rw[Bool.and_eq_true,Bool.not_eq_true'] at h1
   refine Exists.elim ((gi _ _).mp h1.1) fun s hs=>?_
   have xY:(ai 58 t).getLast?=some []:=by
    rw[hs,aW]
    show (ai 58 s++[[]]).getLast?=_
    rw[List.getLast?_concat]
   rw[uo xY rfl rfl]
   ·rfl
   ·intro L R z hR
    have:([58,58]:List Nat).isSuffixOf t=true:=(gi _ _).mpr ⟨L,by rw[z,hR]⟩
    rw[this] at h1
    cases h1.2
  | false=>
   rw[if_neg Bool.false_ne_true]
   cases h2:mn t with
   | true=>
    rw[if_pos rfl]
    unfold mn at h2
    rw[Bool.and_eq_true,Bool.not_eq_true'] at h2
    have hh:=(TS t).mp h2.1
    obtain⟨r,hr⟩:∃ r,t=58::r:=by
     cases t with
     | nil=>contradiction
     | cons x r=>exact⟨r,by simp at hh;rw[hh]⟩
    have:bB t=none:=by
     unfold bB
     match hc:aX 0 t with
     | a::b::r=>rfl
     | []=>
      dsimp only
      unfold a8
      rw[if_neg h0,gQ (p:=[]) (by rw[hr,bO];exact .head _) rfl rfl]
     | [a]=>
      refine bW (cZ hc) fun L R zz=>iZ zz fun e1 e2 e3 e4=>?_
      rw[Nat.zero_add] at e2
      have rn:t.take a=L:=by rw[e1,e2,List.take_left]
      have hL:L≠[]:=fun z=>by
       rw[z] at e1
       have:=(GL t).mpr ⟨R,e1⟩
       rw[this] at h2
       cases h2.2
      obtain⟨L',Y5⟩:∃ L',L=58::L':=by
       cases L with
       | nil=>exact absurd rfl hL
       | cons x L'=>
        rw[hr] at e1
        simp at e1
        exact⟨L',by rw[<- e1.1]⟩
      dsimp only
      rw[rn]
      have:a8 L false=none:=by
       unfold a8
       rw[if_neg hL,gQ (p:=[]) (by rw[Y5,bO];exact .head _) rfl rfl]
      rw[this]
    rw[this];rfl
   | false=>
    rw[if_neg Bool.false_ne_true]
    by_cases h3:t=[58,58]
    ·subst h3
     rw[if_pos rfl]
     decide +kernel
    ·rw[if_neg h3]
     exact GO (JL h0 h1 h2 h3)
noncomputable def cQ:Nat->List Nat->List Nat
 | _,[]=>[]
 | n,x::r=>if x=37 then n::cQ (n+1) r else cQ (n+1) r
theorem jY:cQ n (x::r)=(if x=37 then n::cQ (n+1) r else cQ (n+1) r):=rfl
noncomputable def bY (t:List Nat):Option (List Nat):=match cQ 0 t with
 | [a]=>bB (t.take a)
 | _=>bB t
set_option tactic.hygienic true in
theorem gj:∀ {t:List Nat}{n a:Nat}{rest:List Nat},cQ n t=a::rest->∃ L R,t=L++37::R/\a=n+L.length/\37∉L/\rest=cQ (a+1) R
 | x::r,n,a,rest,h=>by
  rw[jY] at h
  split at h
  ·rename_i q
   injection h with h zq;subst h zq
   exact⟨[],r,by rw[q];rfl,rfl,by simp,rfl⟩
  ·rename_i q
   refine bW (gj h) fun L R zz=>iZ zz fun e1 e2 e3 e4=>?_
   refine⟨x::L,R,by rw[e1];rfl,by rw[e2,List.length_cons];lia,fun z=>?_,e4⟩
   rcases List.mem_cons.mp z with z | z
   ·exact q z.symm
   ·exact e3 z
set_option tactic.hygienic true in
theorem rA:∀ {t:List Nat}{n:Nat},cQ n t=[]->37∉t:=by
 intro z0
 induction z0 with
 | nil=>
  intro _ _
  simp
 | cons x r ih=>
  intro n h
  rw[jY] at h
  split at h
  ·contradiction
  ·rename_i q
   intro z
   rcases List.mem_cons.mp z with z | z
   ·exact q z.symm
   ·exact ih h z
theorem JN {t:List Nat} (h:37∉t):∀ n,cQ n t=[]:=by
 induction t with
 | nil=>intro n;rfl
 | cons x r ih=>
  intro n
  rw[jY,if_neg fun z=>h (by rw[z];exact .head _)]
  exact ih (fun z=>h (.tail _ z)) _
theorem xZ {t:List Nat}{c:Nat} (hc:c∈t) (h1:c≠46) (h2:aO c=false):aI t=[]:=by
 rw[dY,if_neg]
 rintro ⟨_,h⟩
 refine Exists.elim (jn h1 hc) fun p zz=>aC zz fun hp V1=>?_
 have:=(h p hp).1
 rw[List.all_eq_true] at this
 rw[this c V1] at h2
 contradiction
theorem N6 {t:List Nat} (h:37∈t):bB t=none:=by
 have bad:∀ {s:List Nat} (e:Bool),37∈s->a8 s e=none:=fun {s} e hs=>by
  unfold a8
  rw[if_neg (fun z=>by rw[z] at hs;contradiction)]
  refine Exists.elim (jn (c:=58) (by decide) hs) fun p zz=>aC zz fun hp V1=>?_
  exact gQ hp (rt (c:=37) rfl V1) (xZ V1 (by decide) rfl)
 unfold bB
 match hc:aX 0 t with
 | a::b::r=>rfl
 | []=>dsimp only;rw[bad true h]
 | [a]=>
  refine bW (cZ hc) fun L R zz=>iZ zz fun e1 e2 e3 e4=>?_
  rw[Nat.zero_add] at e2
  have rn:t.take a=L:=by rw[e1,e2,List.take_left]
  have ro:t.drop (a+2)=R:=by rw[e1,e2,<- List.drop_drop,List.drop_left];rfl
  dsimp only
  rw[rn,ro]
  rw[e1] at h
  rcases List.mem_append.mp h with h | h
  ·rw[bad false h]
  ·have:37∈R:=by simpa using h
   rw[bad true this]
   cases a8 L false<;>rfl
theorem ya (t:List Nat):vS t=(bY t).map aK:=by
 unfold vS bY
 match hs:cQ 0 t with
 | []=>
  rw[bz (rA hs)]
  exact iC t
 | [a]=>
  refine bW (gj hs) fun L R zz=>iZ zz fun e1 e2 e3 e4=>?_
  have hR:=rA e4.symm
  rw[Nat.zero_add] at e2
  have rn:t.take a=L:=by rw[e1,e2,List.take_left]
  dsimp only
  rw[rn,e1,aW,bz e3,bz hR]
  exact iC L
 | a::b::r=>
  refine bW (gj hs) fun L R zz=>iZ zz fun e1 e2 e3 e4=>?_
  refine bW (gj e4.symm) fun L' R' zz=>iZ zz fun f1 f2 f3 f4=>?_
  dsimp only
  rw[N6 (by rw[e1];simp),e1,f1,aW,aW,bz e3,bz f3]
  refine bW (bU (c:=37) R') fun p ps e=>?_
  rw[e]
  rfl
theorem vU {c:Nat}:∀ t:List Nat,bj [c] (ai c t)=t:=by
 intro z0
 induction z0 with
 | nil=>exact  rfl
 | cons x r ih=>
  have ih:=ih
  refine bW (bU (c:=c) r) fun p ps e=>?_
  rw[aT]
  rw[e] at ih ⊢
  by_cases h:x=c
  ·subst h
   rw[if_pos rfl,aV]
   rw[ih];rfl
  ·rw[if_neg h]
   dsimp only
   cases ps with
   | nil=>rw[ck] at ih ⊢;rw[ih]
   | cons q qs=>
    rw[aV] at ih ⊢
    rw[<- ih];simp
structure GP (t:List Nat):Prop where
 WB:bQ (aI t)=t
 read:bB t=none
 scp:bY t=none
theorem lr {t:List Nat} (h:aI t≠[]):GP t:=by
 have hl:=iB h
 have A6:∀ c∈t,c=46∨aO c=true:=fun c hc=>by
  by_cases q:c=46
  ·exact .inl q
  ·right
   refine Classical.byContradiction fun z=>h (xZ hc q (by simpa using z))
 have sN:58∉t:=fun z=>by rcases A6 58 z with e | e<;>contradiction
 have Y6:37∉t:=fun z=>by rcases A6 37 z with e | e<;>contradiction
 have hr:bB t=none:=by
  unfold bB
  rw[fH sN 0]
  dsimp only
  unfold a8
  have h0:t≠[]:=fun z=>by have:=mr hl;rw[z] at this;contradiction
  rw[if_neg h0,bz sN,fI,fS hl]
  dsimp only
  rw[if_pos ⟨h,rfl,rfl⟩]
  refine kR (dF h) fun a b c d zz=>aC zz fun z O=>?_
  rw[z];rfl
 refine⟨?_,hr,?_⟩
 ·have hq:=dY (t:=t)
  by_cases z:(ai 46 t).length=4/\∀ q∈ai 46 t,gO q
  ·rw[if_pos z] at hq
   rw[hq]
   unfold bQ
   rw[List.map_map]
   have:(ai 46 t).map ((fun n:Nat=>bI n)∘digitsVal)=ai 46 t:=by
    have:∀ l:List (List Nat),(∀ q∈l,gO q)->l.map ((fun n:Nat=>bI n)∘digitsVal)=l:=by
     intro l
     induction l with
     | nil=>intro _;rfl
     | cons p r ih=>
      intro hh
      rw[List.map_cons,ih fun q hq=>hh q (.tail _ hq)]
      congr 1
      exact (hh p (.head _)).2.1
    exact this _ z.2
   rw[this,vU]
  ·rw[if_neg z] at hq
   exact absurd hq h
 ·unfold bY
  rw[JN Y6 0]
  exact hr
set_option tactic.hygienic true in
theorem GQ:∀ {ps:List (List Nat)}{e:Bool}{g:List Nat},bK ps e=some g->∀ x∈g,x<65536:=by
 intro z0
 induction z0 with
 | nil=>
  intro e g h x hx
  injection h with h;subst h;contradiction
 | cons p r ih=>
  intro e g h x hx
  rw[fI] at h
  cases hv:aR p with
  | some v=>
   rw[hv] at h
   cases hq:bK r e with
   | none=>rw[hq] at h;contradiction
   | some g'=>
    rw[hq] at h;injection h with h;subst h
    rcases List.mem_cons.mp hx with z | z
    ·rw[z];exact Gr hv
    ·exact ih hq x z
  | none=>
   rw[hv] at h
   dsimp only at h
   split at h
   ·rename_i q
    refine kR (dF q.1) fun a b c d zz=>p4 zz fun z ha hb hc hd=>?_
    rw[z] at h
    injection h with h;subst h
    simp only[Gu,List.mem_cons,List.not_mem_nil,or_false] at hx
    rcases hx with rfl | rfl<;>lia
   ·contradiction
theorem lu {t:List Nat}{e:Bool}{g:List Nat} (h:a8 t e=some g):∀ x∈g,x<65536:=by
 unfold a8 at h
 split at h
 ·injection h with h;subst h;intro x hx;contradiction
 ·exact GQ h
theorem iD {t g:List Nat} (h:bB t=some g):g.length=8/\∀ x∈g,x<65536:=by
 unfold bB at h
 cases hc:aX 0 t with
 | nil=>
  rw[hc] at h
  dsimp only at h
  cases q:a8 t true with
  | none=>rw[q] at h;contradiction
  | some k=>
   rw[q] at h
   dsimp only at h
   by_cases h8:k.length=8
   ·rw[if_pos h8] at h;injection h with h;subst h;exact⟨h8,lu q⟩
   ·rw[if_neg h8] at h;contradiction
 | cons a r=>
  rw[hc] at h
  cases r with
  | cons=>contradiction
  | nil=>
   dsimp only at h
   cases q1:a8 (t.take a) false with
   | none=>rw[q1] at h;contradiction
   | some l=>
    cases q2:a8 (t.drop (a+2)) true with
    | none=>rw[q1,q2] at h;contradiction
    | some r=>
     rw[q1,q2] at h
     dsimp only at h
     by_cases h7:l.length+r.length<=7
     ·rw[if_pos h7] at h
      injection h with h
      subst h
      refine⟨by simp only[List.length_append,List.length_replicate];lia,fun x hx=>?_⟩
      rcases List.mem_append.mp hx with hx | hx
      ·rcases List.mem_append.mp hx with hx | hx
       ·exact lu q1 x hx
       ·rw[List.eq_of_mem_replicate hx];decide
      ·exact lu q2 x hx
     ·rw[if_neg h7] at h;contradiction
theorem ur {t g:List Nat} (h:bY t=some g):g.length=8/\∀ x∈g,x<65536:=by
 revert h
 unfold bY
 cases cQ 0 t with
 | nil=>exact iD
 | cons a r=>cases r<;>exact iD
noncomputable def gy:List Nat:=[48,49,50,51,52,53,54,55,56,57,97,98,99,100,101,102,65,66,67,68,69,70]
theorem Dc {n:Nat} (h:n<16):gy.getD n 0=dE n:=by
 have:∀ n:Fin 16,gy.getD n.1 0=dE n.1:=by decide +kernel
 exact this ⟨n,h⟩
noncomputable def b7 (v:Nat):List Nat:=dy gy 1 4 v []
noncomputable def hex4 (v:Nat):List Nat:=hex2 (v / 256)++hex2 (v % 256)
noncomputable def nW (s:List Nat):List Nat:=if (s.dropWhile (· == 48)).isEmpty then [48] else s.dropWhile (· == 48)
theorem GR {sg:List Nat}:∀ (k n:Nat) (A B:List Nat),dy sg 0 k n (A++B)=dy sg 0 k n A++B:=by
 intro z0
 induction z0 with
 | zero=>
  exact fun O O O=>rfl
 | succ k ih=>
  intro n A B
  rw[dN,dN]
  by_cases h:0<n
  ·rw[if_pos (.inl h),if_pos (.inl h)];exact ih _ (_::A) B
  ·rw[if_neg (fun q=>q.elim h (Nat.not_lt_zero _)),if_neg (fun q=>q.elim h (Nat.not_lt_zero _))]
theorem GU {sg:List Nat}:∀ (k n x:Nat) (A:List Nat),dy sg 1 k n (x::A)=dy sg 0 k n (x::A):=by
 intro z0
 induction z0 with
 | zero=>
  exact fun O O O=>rfl
 | succ k ih=>
  intro n x A
  rw[dN,dN]
  by_cases h:0<n
  ·rw[if_pos (.inl h),if_pos (.inl h)];exact ih _ _ (x::A)
  ·rw[if_neg (fun q=>q.elim h (fun z=>absurd z (Nat.not_lt.mpr (Nat.le_add_left 1 _)))),if_neg (fun q=>q.elim h (Nat.not_lt_zero _))]
noncomputable def T3 (v:Nat):Bool:=decide (nW (hex4 v)=b7 v)&&decide (aR (b7 v)=some v)&&decide (1<=(b7 v).length/\(b7 v).length<=4)
noncomputable def XY (h:Nat):Bool:=decide (h=0)||(decide ((hex2 h).dropWhile (· == 48)=dy gy 0 2 h [])&&decide (cY (dy gy 0 2 h []) 0=some h)&&decide (1<=(dy gy 0 2 h []).length/\(dy gy 0 2 h []).length<=2))
theorem Rp:(List.range 256).all T3=true:=by kernel_rfl
theorem T4:(List.range 256).all XY=true:=by kernel_rfl
theorem A7:∀ {a b:List Nat}{v w:Nat},cY a v=some w->cY (a++b) v=cY b w:=by
 intro z0
 induction z0 with
 | nil=>
  intro b v w h
  injection h with h;subst h;rfl
 | cons c a ih=>
  intro b v w h
  rw[List.cons_append,dZ]
  rw[dZ] at h
  cases q:cn c with
  | none=>rw[q] at h;contradiction
  | some d=>rw[q] at h;exact ih h
theorem yb {h l:Nat} (hl:l<256):cY (hex2 l) h=some (h*256+l):=by
 show cY [dE (l / 16),dE (l % 16)] h=_
 rw[fD (jq (Nat.div_lt_of_lt_mul (show l<16*16 from hl))).1,fD (jq (Nat.mod_lt l (show 0<16 by decide))).1,nJ]
 congr 1;lia
theorem JP {v:Nat} (h:256<=v):b7 v=dy gy 0 2 (v / 256) []++hex2 (v % 256):=by
 unfold b7
 rw[dN,if_pos (.inr Nat.zero_lt_one),Dc (Nat.mod_lt v (show 0<16 by decide)),dN,if_pos (.inl (Nat.div_pos (Nat.le_trans (by decide) h) (by decide))),Dc (Nat.mod_lt _ (show 0<16 by decide)),GU,Nat.div_div_eq_div_mul]
 rw[show ([dE (v / 16 % 16),dE (v % 16)]:List Nat)=[]++hex2 (v % 256) from by
  show _=[dE (v % 256 / 16),dE (v % 256 % 16)]
  rw[show v % 256 / 16=v / 16 % 16 from Nat.mod_mul_right_div_self v 16 16,Nat.mod_mod_of_dvd v (by decide)]]
 exact GR 2 _ [] _
theorem rB {v:Nat} (h:v<65536):nW (hex4 v)=b7 v/\aR (b7 v)=some v/\1<=(b7 v).length/\(b7 v).length<=4:=by
 by_cases hv:v<256
 ·have:=List.all_eq_true.mp Rp v (List.mem_range.mpr hv)
  unfold T3 at this
  rw[Bool.and_eq_true,Bool.and_eq_true] at this
  exact⟨of_decide_eq_true this.1.1,of_decide_eq_true this.1.2,of_decide_eq_true this.2⟩
 ·have hd:v / 256<256:=Nat.div_lt_of_lt_mul h
  have h0:v / 256≠0:=fun e=>hv (by rw[Nat.div_eq_zero_iff] at e;exact e.resolve_left (by decide))
  have:=List.all_eq_true.mp T4 (v / 256) (List.mem_range.mpr hd)
  unfold XY at this
  rw[decide_eq_false h0,Bool.false_or,Bool.and_eq_true,Bool.and_eq_true] at this
  refine aC this fun mw e3=>?_;obtain⟨e1,e2⟩:=mw
  replace e1:=of_decide_eq_true e1
  replace e3:=of_decide_eq_true e3
  have au:(dy gy 0 2 (v / 256) []).isEmpty=false:=by
   cases q:dy gy 0 2 (v / 256) [] with
   | nil=>rw[q] at e3;exact absurd e3.1 (by decide)
   | cons _ _=>rfl
  rw[JP (Nat.not_lt.mp hv)]
  generalize dy gy 0 2 (v / 256) []=W at *
  have hlen:(W++hex2 (v % 256)).length=W.length+2:=List.length_append
  refine⟨?_,?_,?_,?_⟩
  ·unfold nW hex4
   rw[List.dropWhile_append,e1,au]
   cases W with
   | nil=>contradiction
   | cons _ _=>rfl
  ·unfold aR
   rw[if_neg (by rw[hlen];lia),A7 (of_decide_eq_true e2),yb (Nat.mod_lt v (by decide)),Nat.mul_comm,Nat.div_add_mod]
  ·rw[hlen];exact Nat.le_add_left _ _
  ·rw[hlen];exact Nat.add_le_add_right e3.2 2
theorem ly {v:Nat} (h:v<65536):aR (b7 v)=some v:=(rB h).2.1
def hexChar (c:Nat):Prop:=(48<=c/\c<=57)∨(97<=c/\c<=102)∨(65<=c/\c<=70)
theorem rC {v:Nat}:∀ c∈b7 v,hexChar c:=fun c hc=>by
 rcases ud (sg:=gy) (by decide) 4 v [] c hc with h | h
 ·contradiction
 ·have:∀ c∈gy.take 16,(48<=c/\c<=57)∨(97<=c/\c<=102):=by decide
  rcases this c h with q | q
  ·exact .inl q
  ·exact .inr (.inl q)
theorem yc {v:Nat} (h:v<65536):1<=(b7 v).length/\(b7 v).length<=4:=(rB h).2.2
theorem N7 {v:Nat} (h:v<65536):b7 v≠[]:=fun e=>by
 have:=(yc h).1;rw[e] at this;contradiction
theorem A8 {v:Nat} (h:v<65536):nW (hex4 v)=b7 v:=(rB h).1
noncomputable def ws (g:List Nat):List (List Nat):=g.map b7
noncomputable def e9 (g:List Nat) (z s:Nat):Bool:=decide ((g.drop s).take z=List.replicate z 0)
noncomputable def rD (g:List Nat) (z:Nat):Option Nat:=(List.range' 0 (9 - z)).find? (e9 g z)
noncomputable def nX (g:List Nat):Nat->Option (Nat × Nat)
 | 0=>none
 | k+1=>if k=0 then none else match rD g (k+1) with
  | some s=>some (s,k+1)
  | none=>nX g k
theorem vV {g:List Nat}:nX g (k+1)=(if k=0 then none else match rD g (k+1) with
  | some s=>some (s,k+1)
  | none=>nX g k):=rfl
noncomputable def fT (g:List Nat) (s z:Nat):List Nat:=if s=0/\z=6 then [58,58]++bQ (aK (g.drop 6)) else if s=0/\z=5/\g.getD 5 0=65535 then [58,58,102,102,102,102,58]++bQ (aK (g.drop 6)) else
 bj [58] ((ws g).take s)++[58,58]++bj [58] ((ws g).drop (s+z))
noncomputable def cR (g:List Nat):List Nat:=match nX g 8 with
 | some (s,z)=>fT g s z
 | none=>bj [58] (ws g)
theorem JQ:∀ a b:List Nat,a.length=b.length->kW (vl a) (vl b)=.ok (decide (a=b))
 | [],[],_=>rfl
 | x::a,y::b,h=>by
  show kW (vi x::vl a) (vi y::vl b)=_
  rw[lV,P1,R.bP,JQ a b (by simpa using h),R.bP]
  congr 1
  by_cases h1:x=y
  ·subst h1;simp
  ·have:¬ (x:Int)=(y:Int):=by lia
   simp[h1,this]
theorem JR (a b:List Nat):V.eq (.list (vl a)) (.list (vl b))=.ok (decide (a=b)):=by
 rw[Rd]
 by_cases h:a.length=b.length
 ·rw[if_pos (by rw[List.length_map,List.length_map];exact h),JQ a b h]
 ·rw[if_neg (by rw[List.length_map,List.length_map];exact h),decide_eq_false fun e=>h (by rw[e])]
theorem d9:∀ {l:List (List Nat)}{k:Nat},(∀ w∈l,w.length<=k)->bx l<=k*l.length:=by
 intro z0
 induction z0 with
 | nil=>
  exact fun {k} _=>Nat.zero_le _
 | cons w r ih=>
  intro k h
  have h1:=h w (.head _)
  have h2:=ih fun x hx=>h x (.tail _ hx)
  rw[aY,List.length_cons,Nat.mul_succ];lia
theorem my:∀ l:List (List Nat),(bj [58] l).length<=bx l+l.length
 | []=>Nat.le_refl _
 | [x]=>by simp[dg,ck,aV,cM,aY]
 | x::y::r=>by
  have:=my (y::r)
  rw[aV]<;>simp[cM,aY] at this ⊢;lia
theorem JS (g:List Nat) (s z:Nat):((vl g).drop s).take (s+z - s)=vl ((g.drop s).take z):=by
 show ((g.map vi).drop s).take _=((g.drop s).take z).map vi
 rw[Nat.add_sub_cancel_left,List.map_take,List.map_drop]
theorem JT (z:Nat):(List.replicate z ([V.int 0]:List V)).flatten=vl (List.replicate z 0):=by
 induction z with
 | zero=>rfl
 | succ k ih=>rw[List.replicate_succ,List.flatten_cons,ih,List.replicate_succ];rfl
structure nq (g:List Nat):Prop where
 len:g.length=8
 lt:∀ x∈g,x<65536
theorem nq.tail {g:List Nat} (G:nq g):∃ a b,g.drop 6=[a,b]/\a<65536/\b<65536:=by
 obtain⟨h1,h2⟩:=G
 match g,h1,h2 with
 | [_,_,_,_,_,_,a,b],_,h2=>exact⟨a,b,rfl,h2 a (by simp),h2 b (by simp)⟩
theorem nq.rE {g:List Nat} (G:nq g):∀ w∈ws g,w.length<=4:=fun w hw=>by
 refine Exists.elim (List.mem_map.mp hw) fun x zz=>aC zz fun hx aw=>?_;clear zz;subst aw
 exact (yc (G.lt x hx)).2
theorem mz {a b c d:Nat} (ha:a<256) (hb:b<256) (hc:c<256) (hd:d<256):(bQ [a,b,c,d]).length<=15:=by
 have h:=fun v (hv:v<256)=>ji (n:=v) (by lia)
 have h1:=h a ha
 have h2:=h b hb
 have h3:=h c hc
 have h4:=h d hd
 simp only[bQ,List.map_cons,List.map_nil,dg,ck,aV,List.length_append,List.length_cons,List.length_nil]
 lia
theorem E.const {D:Fn->List V->R V}{J:Ρ}{v:V}:ao D (.const v) J=.ok v:=rfl
theorem Dd {W:List (List Nat)} (h:∀ w∈W,w.length<=4) (hl:W.length<=8):bq .join [V.str [58],V.list (W.map V.str)]=.ok (.str (bj [58] W))/\(bj [58] W).length<=40:=by
 have t:bx W<=32:=Nat.le_trans (d9 h) (Nat.mul_le_mul_left 4 hl)
 refine⟨?_,Nat.le_trans (my W) (Nat.add_le_add t hl)⟩
 show (match strs? (W.map V.str) with
  | some ys=>R.guard (decide (bx ys+([58]:List Nat).length*ys.length<=lim)) (R.ok (V.str (bj [58] ys)))
  | none=>R.stuck)=_
 rw[strs_map]
 exact e8 (Nat.le_trans (Nat.add_le_add t (Nat.mul_le_mul_left 1 hl)) (show 32+1*8<=1000000 by decide)) rfl
theorem WC {z:Nat} (hz:z<=8):sP .mul (V.list [V.int 0]) (vi z)=.ok (.list (vl (List.replicate z 0))):=by
 show R.guard (decide (([V.int 0]:List V).length=1)&&decide ((-1000:Int)<=(z:Int))&&decide ((z:Int)<=1000)) (R.ok (V.list (List.replicate (z:Int).toNat [V.int 0]).flatten))=_
 rw[decide_eq_true (Int.le_trans (by decide) (Int.natCast_nonneg z)),decide_eq_true (show (z:Int)<=1000 from Int.ofNat_le.mpr (Nat.le_trans hz (by decide))),Int.toNat_natCast,JT]
 rfl
theorem yd {n:Nat}{g:List Nat} (G:nq g) {x4:Option V}{z:Nat} (hz:z<=8) (s:Nat) :
  ak (ae defs (n+1)) iu [some (.list (vl g)),some (.list ((ws g).map V.str)),some (vi z),some (vi s),x4]=if e9 g z s=true then .ret (.str (fT g s z)) else .next [some (.list (vl g)),some (.list ((ws g).map V.str)),some (vi z),some (vi s),x4]:=by
 have sum:ao (ae defs (n+1)) (.bin .add (.loc 3) (.loc 2)) [some (.list (vl g)),some (.list ((ws g).map V.str)),some (vi z),some (vi s),x4]=.ok (vi (s+z)):=E.bin (x:=vi s) (y:=vi z) rfl rfl rfl
 have uv:=E.cmp (op:=.eq) (E.slice (a:=.loc 0) (lo:=.loc 3) (x:=.list (vl g)) (l:=vi s) rfl rfl sum rfl ((Jx (vl g) s (s+z) (Nat.le_add_right _ _)).trans (by rw[JS])))
  (E.bin (op:=.mul) (a:=.list (.cons (.const (.int 0)) .nil)) (b:=.loc 2) (x:=.list [.int 0]) (y:=vi z) rfl rfl (WC hz)) (by rw[vI,JR];rfl:pG .eq (V.list (vl ((g.drop s).take z))) (V.list (vl (List.replicate z 0)))=.ok (.bool (e9 g z s)))
 by_cases hq:e9 g z s=true
 ·rw[if_pos hq]
  refine S.last.trans ((S.aF uv hq).trans ?_)
  refine bW G.tail fun p q zz=>b6 zz fun ht hp Y7=>?_
  have WD:=(fG (vl g) 6).trans (by rw[<- List.map_drop,ht]:_=.ok (.list (vl [p,q])))
  have T5:=vK (n:=n) (aK [p,q]) (show (4:Nat)<=100 by decide) fun x hx=>Nat.lt_trans (cX [p,q] (fun y hy=>by
   simp only[List.mem_cons,List.not_mem_nil,or_false] at hy
   rcases hy with rfl | rfl<;>assumption) x hx) (by decide)
  have S6:(bQ (aK [p,q])).length<=15:=mz (Nat.div_lt_of_lt_mul hp) (Nat.mod_lt _ (by decide)) (Nat.div_lt_of_lt_mul Y7) (Nat.mod_lt _ (by decide))
  have tail:=fun (l:List Nat) (hl:l.length<=7)=>E.bin (op:=.add) (a:=.const (.str l)) (E.const (v:=.str l) (J:=[some (.list (vl g)),some (.list ((ws g).map V.str)),some (vi z),some (vi s),x4])) (E.call (E.one (E.call (E.one (E.slice (a:=.loc 0) (lo:=.const (.int 6)) (hi:=.const .none) rfl rfl rfl rfl WD)) (vL (n:=n) p q))) T5) (adds (Nat.le_trans (Nat.add_le_add hl S6) (by decide)))
  have c1:=C.and (E.cmp (op:=.eq) (a:=.loc 3) (b:=.const (.int 0)) (J:=[some (.list (vl g)),some (.list ((ws g).map V.str)),some (vi z),some (vi s),x4]) (D:=ae defs (n+1)) (x:=vi s) (y:=vi 0) rfl rfl (b5 (e7 s 0))) (E.cmp (op:=.eq) (a:=.loc 2) (b:=.const (.int 6)) (x:=vi z) (y:=vi 6) rfl rfl (b5 (e7 z 6)))
  have i5:il (.list (vl g)) (.int 5)=.ok (vi (g.getD 5 0)):=et (by
   rw[List.getElem?_map,List.getD_eq_getElem?_getD,List.getElem?_eq_getElem (by rw[G.len];decide)];rfl)
  have c2:=C.and (E.cmp (op:=.eq) (a:=.loc 3) (b:=.const (.int 0)) (J:=[some (.list (vl g)),some (.list ((ws g).map V.str)),some (vi z),some (vi s),x4]) (D:=ae defs (n+1)) (x:=vi s) (y:=vi 0) rfl rfl (b5 (e7 s 0))) (C.and (E.cmp (op:=.eq) (a:=.loc 2) (b:=.const (.int 5)) (x:=vi z) (y:=vi 5) rfl rfl (b5 (e7 z 5))) (E.cmp (op:=.eq) (a:=.idx (.loc 0) (.const (.int 5))) (b:=.const (.int 65535)) (y:=vi 65535) (E.idx (y:=.int 5) rfl rfl rfl i5) rfl (b5 (e7 _ 65535))))
  rw[<- Bool.decide_and] at c1
  rw[<- Bool.decide_and,<- Bool.decide_and] at c2
  have wl:=G.rE
  have ye:(ws g).length=8:=by rw[ws,List.length_map,G.len]
  have j1:=Dd (W:=(ws g).take s) (fun w hw=>wl w (List.mem_of_mem_take hw)) (by rw[List.length_take,ye];exact Nat.min_le_right _ _)
  have j2:=Dd (W:=(ws g).drop (s+z)) (fun w hw=>wl w (List.mem_of_mem_drop hw)) (by rw[List.length_drop,ye];exact Nat.sub_le _ _)
  unfold fT
  rw[ht]
  by_cases h6:s=0/\z=6
  ·rw[if_pos h6]
   exact S.end ((S.aF c1 (decide_eq_true h6)).trans (S.end (S.ret (tail [58,58] (by decide)))))
  ·rw[if_neg h6]
   refine S.seq (S.skip (c1.trans (by rw[decide_eq_false h6]))) ?_
   by_cases h5:s=0/\z=5/\g.getD 5 0=65535
   ·rw[if_pos h5]
    exact S.end ((S.aF c2 (decide_eq_true h5)).trans (S.end (S.ret (tail [58,58,102,102,102,102,58] (by decide)))))
   ·rw[if_neg h5]
    refine S.seq (S.skip (c2.trans (by rw[decide_eq_false h5]))) (S.end (S.ret (E.bin (E.bin (E.aH (x:=.str [58]) rfl rfl (E.one (E.slice (x:=.list ((ws g).map V.str)) (l:=.none) (h:=vi s) rfl rfl rfl rfl ((fF _ s).trans (by rw[<- List.map_take])))) j1.1) (E.const (v:=.str [58,58])) (adds (Nat.le_trans (Nat.add_le_add j1.2 (Nat.le_refl 2)) (by decide))))
     (E.aH (x:=.str [58]) rfl rfl (E.one (E.slice (x:=.list ((ws g).map V.str)) (h:=.none) rfl sum rfl rfl ((fG _ (s+z)).trans (by rw[<- List.map_drop])))) j2.1) (adds (by rw[List.length_append];exact Nat.le_trans (Nat.add_le_add (Nat.add_le_add j1.2 (Nat.le_refl 2)) j2.2) (by decide))))))
 ·rw[if_neg hq]
  exact S.last.trans (S.skip (uv.trans (by rw[Bool.eq_false_iff.mpr hq])))
theorem A9 {n:Nat}{g:List Nat} (G:nq g) {x4:Option V}{z:Nat} (hz:z<=8):∀ (m s:Nat) (o:Option V),
  match (List.range' s m).find? (e9 g z) with
  | some st=>dh 3 (ak (ae defs (n+1)) iu) ((List.range' s m).map vi) [some (.list (vl g)),some (.list ((ws g).map V.str)),some (vi z),o,x4]=.ret (.str (fT g st z))
  | none=>∃ o',dh 3 (ak (ae defs (n+1)) iu) ((List.range' s m).map vi) [some (.list (vl g)),some (.list ((ws g).map V.str)),some (vi z),o,x4]=.next [some (.list (vl g)),some (.list ((ws g).map V.str)),some (vi z),o',x4]:=by
 intro z0
 induction z0 with
 | zero=>
  exact fun s o=>⟨o,rfl⟩
 | succ m ih=>
  intro s o
  have hb:=yd (n:=n) G (x4:=x4) hz s
  rw[List.range'_succ,List.find?_cons]
  cases hq:e9 g z s with
  | true=>rw[if_pos hq] at hb;exact F.stop hb
  | false=>
   rw[if_neg (ne_true_of_eq_false hq)] at hb
   have ih:=ih (s+1) (some (vi s))
   revert ih
   cases (List.range' (s+1) m).find? (e9 g z) with
   | some st=>exact fun ih=>F.cons hb ih
   | none=>exact fun ⟨o',e⟩=>⟨o',F.cons hb e⟩
theorem W.WG {D:Fn->List V->R V}{J:Ρ}{c:PE}{b:aB}{n:Nat}{v:V} (hc:(ao D c J).bind V.truth=.ok true) (h:ak D b J=.ret v):dp (fun J=>(ao D c J).bind V.truth) (ak D b) (n+1) J=.ret v:=by
 rw[DU,hc,R.Q9,if_pos rfl,h];rfl
theorem oZ {n:Nat}{g:List Nat} (G:nq g) {x4:Option V}:∀ (k f:Nat) (o:Option V),k<=8->
  match nX g k with
  | some (s,z)=>dp (fun J=>(ao (ae defs (n+1)) (.cmp .gt (.loc 2) (.const (.int 1))) J).bind V.truth) (ak (ae defs (n+1)) kZ) (f+k+1) [some (.list (vl g)),some (.list ((ws g).map V.str)),some (vi k),o,x4]=.ret (.str (fT g s z))
  | none=>∃ a b,dp (fun J=>(ao (ae defs (n+1)) (.cmp .gt (.loc 2) (.const (.int 1))) J).bind V.truth) (ak (ae defs (n+1)) kZ) (f+k+1) [some (.list (vl g)),some (.list ((ws g).map V.str)),some (vi k),o,x4]=.next [some (.list (vl g)),some (.list ((ws g).map V.str)),a,b,x4]
 | 0,f,o,_=>⟨some (vi 0),o,W.stop (by kernel_rfl)⟩
 | k+1,f,o,hk=>by
  rw[vV]
  by_cases h0:k=0
  ·subst h0
   exact⟨some (vi 1),o,W.stop (by kernel_rfl)⟩
  ·rw[if_neg h0]
   have hc:=A9 (n:=n) G (x4:=x4) (z:=k+1) hk (9 - (k+1)) 0 o
   have uv:=C.ok (E.cmp (D:=ae defs (n+1)) (J:=[some (.list (vl g)),some (.list ((ws g).map V.str)),some (vi (k+1)),o,x4]) (op:=.gt) (a:=.loc 2) (b:=.const (.int 1)) (x:=vi (k+1)) (y:=vi 1) rfl rfl (b5 ((fP 1 (k+1)).trans (decide_eq_true (Nat.succ_lt_succ (Nat.pos_of_ne_zero h0))))))
   have Ba:(9:Int) - ((k+1:Nat):Int)=((9 - (k+1):Nat):Int):=(Int.ofNat_sub (Nat.le_succ_of_le hk)).symm
   have T7:gI (ae defs (n+1)) (.sO (.const (.int 0)) (.bin .sub (.const (.int 9)) (.loc 2)) 1) [some (.list (vl g)),some (.list ((ws g).map V.str)),some (vi (k+1)),o,x4]=.ok ((List.range' 0 (9 - (k+1))).map vi):=
    GB (k:=((9 - (k+1):Nat):Int)) (E.bin (x:=.int 9) (y:=vi (k+1)) rfl rfl (qN Ba)) (show 9 - (k+1)<=1000000 from Nat.le_trans (Nat.sub_le 9 (k+1)) (by decide))
   have hlen:((List.range' 0 (9 - (k+1))).map vi).length<=lim:=by rw[List.length_map,List.length_range'];exact Nat.le_trans (Nat.sub_le 9 (k+1)) (by decide)
   unfold rD
   revert hc
   cases (List.range' 0 (9 - (k+1))).find? (e9 g (k+1)) with
   | some st=>exact fun hc=>W.WG uv (S.end (S.for T7 hlen hc))
   | none=>
    rintro ⟨o',hc⟩
    have ih:=oZ (n:=n) G (x4:=x4) k f o' (Nat.le_of_succ_le hk)
    have hb:=S.seq (S.for T7 hlen hc) (S.one (S.assign (i:=2) (e:=.bin .sub (.loc 2) (.const (.int 1))) (v:=vi k) (E.bin (x:=vi (k+1)) (y:=vi 1) rfl rfl (qN (Int.add_sub_cancel (k:Int) 1)))))
    dsimp only
    revert ih
    cases nX g k with
    | some q=>exact fun ih=>W.turn uv hb ih
    | none=>exact fun ⟨a,b,e⟩=>⟨a,b,W.turn uv hb e⟩
theorem p9 {n:Nat}{g:List Nat} (G:nq g):ae defs (n+2) .gu [.list (vl g)]=.ok (.str (cR g)):=by
 show (ak (ae defs (n+1)) xA [some (.list (vl g)),none,none,none,none]).value=_
 have hm:(vl g).map (fun x=>match x with | .int i=>.str (b7 i.toNat) | _=>.none)=(ws g).map V.str:=by unfold ws;rw[List.map_map,List.map_map];rfl
 have xQ:ao (ae defs (n+1)) (.comp (.call .iN (.cons (.loc 4) (.cons (.const (.int 1)) (.cons (.glob cN) .nil)))) 4 (.val (.loc 0)) (.const (.bool true))) [some (.list (vl g)),none,none,none,none]=.ok (.list ((ws g).map V.str)):=by
  refine hm ▸ E.map (f:=fun x=>match x with | .int i=>.str (b7 i.toNat) | _=>.none) rfl (by rw[List.length_map,G.len];decide) fun x hx=>?_
  refine Exists.elim (List.mem_map.mp hx) fun y zz=>aC zz fun hy aw=>?_;clear zz;subst aw
  exact E.call (vs:=[vi y,vi 1,cN]) rfl (AO (m:=n) (sg:=gy) y 1 4 (by decide) (G.lt y hy) (by decide) (by decide))
 have h:=oZ (n:=n) G (x4:=none) 8 99991 none (Nat.le_refl _)
 have T8:(ws g).length=8:=by rw[ws,List.length_map,G.len]
 unfold cR
 revert h
 cases nX g 8 with
 | some p=>
  obtain⟨s,z⟩:=p
  exact fun h=>S.val (S.seq (S.assign xQ) (S.seq rfl (S.end h)))
 | none=>
  rintro ⟨a,b,h⟩
  exact S.val (S.seq (S.assign xQ) (S.seq rfl (S.seq h (S.end (S.ret (E.aH rfl rfl (E.one rfl) ((jh [58] (ws g)).trans (e8 (by
   have:=d9 (k:=4) G.rE
   rw[T8] at this ⊢
   exact Nat.le_trans (Nat.add_le_add this (Nat.le_refl (1*8))) (by decide)) rfl))))))))
theorem uw {a:Nat} (h:a<16):aP iP (.int (a:Int)) (.int ((a+1:Nat):Int))=.ok (.bytes [dE a]):=by
 rw[ml _ _ _ (by lia),Nat.add_sub_cancel_left]
 have:∀ a:Fin 16,(([48,49,50,51,52,53,54,55,56,57,97,98,99,100,101,102]:List Nat).drop a.1).take 1=[dE a.1]:=by decide +kernel
 rw[this ⟨a,h⟩]
theorem JV:∀ g:List Nat,((aK g).map hex2).flatten=(g.map hex4).flatten:=by
 intro z0
 induction z0 with
 | nil=>
  exact  rfl
 | cons x r ih=>
  rw[iz,List.map_cons,List.map_cons,List.map_cons,List.flatten_cons,List.flatten_cons,List.flatten_cons,ih,hex4,List.append_assoc]
theorem E.strip {D:Fn->List V->R V}{J:Ρ}{i:Nat}{s:List Nat} (h:ao D (.loc i) J=.ok (.str s)):ao D (.or (.aH .lstrip (.loc i) (.cons (.const (.str [48])) .nil)) (.const (.str [48]))) J=.ok (.str (nW s)):=by
 have m:ao D (.aH .lstrip (.loc i) (.cons (.const (.str [48])) .nil)) J=.ok (.str (s.dropWhile (· == 48))):=E.aH h rfl rfl rfl
 unfold nW
 cases hd:(s.dropWhile (· == 48)).isEmpty with
 | true=>exact E.NB m (congrArg (fun b=>R.ok !b) hd) rfl
 | false=>exact E.Rf m (congrArg (fun b=>R.ok !b) hd)
theorem vW {D:Fn->List V->R V}{A Y8 x6 x7 x8 x9 dx cG cK dw cU:Option V}{H:List Nat}:∀ (g:List Nat) (pre:List Nat) (acc:List (List Nat)) (f:Nat) (x5:Option V),(∀ x∈g,x<65536)->H=pre++(g.map hex4).flatten->acc.length+g.length<=1000->
  ∃ o i,dp (fun J=>(ao D (.cmp .lt (.loc 3) (.loc 4)) J).bind V.truth) (ak D tL) (f+g.length+1) [A,some (.bytes H),some (.list (acc.map V.str)),some (vi pre.length),some (vi H.length),x5,x6,x7,x8,x9,dx,cG,cK,dw,cU] =
   .next [A,some (.bytes H),some (.list ((acc++ws g).map V.str)),i,some (vi H.length),o,x6,x7,x8,x9,dx,cG,cK,dw,cU]:=by
 intro z0
 induction z0 with
 | nil=>
  intro pre acc f x5 _ hH _
  rw[List.map_nil,List.flatten_nil,List.append_nil] at hH
  subst hH
  rw[show acc++ws []=acc from List.append_nil _]
  exact⟨x5,some (vi H.length),W.stop (C.ok (E.cmp rfl rfl (b5 (decide_eq_false (Int.lt_irrefl _)))))⟩
 | cons v r ih=>
  intro pre acc f x5 hg hH Rh
  rw[List.length_cons] at Rh
  have e5:(pre++hex4 v).length=pre.length+4:=List.length_append
  have XZ:H=(pre++hex4 v)++(r.map hex4).flatten:=by rw[hH,List.map_cons,List.flatten_cons,List.append_assoc]
  have hHl:H.length=pre.length+4+((r.map hex4).flatten).length:=by rw[XZ,List.length_append,e5]
  have sl:aP (.bytes H) (.int (pre.length:Int)) (.int ((pre.length+4:Nat):Int))=.ok (.bytes (hex4 v)):=by
   rw[ml _ _ _ (Nat.le_add_right _ _),Nat.add_sub_cancel_left,hH,List.drop_left,List.map_cons,List.flatten_cons,List.take_left' (show (hex4 v).length=4 from rfl)]
  have Rg:ascii (hex4 v)=true:=fQ fun c hc=>(List.mem_append.mp hc).elim (jU (Nat.div_lt_of_lt_mul (hg v (.head _))) c) (jU (Nat.mod_lt _ (by decide)) c)
  refine bW (ih (pre++hex4 v) (acc++[b7 v]) f (some (.str (b7 v))) (fun x hx=>hg x (.tail _ hx)) XZ (by rw[List.length_append,List.length_singleton];lia)) fun o i e=>?_
  rw[e5,List.append_assoc] at e
  refine⟨o,i,W.turn (C.ok (E.cmp rfl rfl (b5 (decide_eq_true (Int.ofNat_lt.mpr (by lia)))))) ?_ e⟩
  refine S.seq (S.assign (E.aH (E.slice rfl rfl (E.bin rfl rfl rfl) rfl sl) rfl rfl (Gk Rg rfl))) (S.seq (S.assign ((E.strip rfl).trans (congrArg (fun s=>R.ok (V.str s)) (A8 (hg v (.head _)))))) (S.seq (S.Gm (f:=V.str) rfl rfl (Nat.lt_of_lt_of_le (show acc.length<1001 by lia) (by decide))) rfl))
structure Sc where
 bs:Int
 bl:Int
 st:Int
 lz:Bool
noncomputable def jr:List Bool->Nat->Sc->Sc
 | [],_,s=>s
 | true::r,i,s=>jr r (i+1) (if s.lz then s else { s with st:=i,lz:=true })
 | false::r,i,s=>jr r (i+1) (if s.lz then (if s.bl<(i:Int) - s.st then ⟨s.st,(i:Int) - s.st,s.st,false⟩ else { s with lz:=false }) else s)
noncomputable def ta (s:Sc):Int × Int:=if s.lz then (if s.bl<8 - s.st then (s.st,8 - s.st) else (s.bs,s.bl)) else (s.bs,s.bl)
noncomputable def T9 (g:List Bool) (z s:Nat):Bool:=decide ((g.drop s).take z=List.replicate z true)
noncomputable def GX (g:List Bool):Nat->Option (Nat × Nat)
 | 0=>none
 | k+1=>if k=0 then none else match (List.range' 0 (9 - (k+1))).find? (T9 g (k+1)) with
  | some s=>some (s,k+1)
  | none=>GX g k
theorem N8 {g:List Bool}:GX g (k+1)=(if k=0 then none else match (List.range' 0 (9 - (k+1))).find? (T9 g (k+1)) with
  | some s=>some (s,k+1)
  | none=>GX g k):=rfl
theorem JW:∀ a b c d e f g h:Bool,(match GX [a,b,c,d,e,f,g,h] 8 with
  | some (s,z)=>decide (ta (jr [a,b,c,d,e,f,g,h] 0 ⟨0,0,-1,false⟩)=((s:Int),(z:Int)))&&decide (1<z)
  | none=>decide ((ta (jr [a,b,c,d,e,f,g,h] 0 ⟨0,0,-1,false⟩)).2<=1))=true:=by decide +kernel
theorem Rq (g:List Nat) (z s:Nat):e9 g z s=T9 (g.map fun x=>decide (x=0)) z s:=by
 unfold e9 T9
 rw[<- List.map_drop,<- List.map_take]
 apply decide_eq_decide.mpr
 generalize (g.drop s).take z=l
 rw[List.eq_replicate_iff,List.eq_replicate_iff,List.length_map]
 refine and_congr_right fun O=>⟨fun h b hb=>?_,fun h b hb=>?_⟩
 ·refine Exists.elim (List.mem_map.mp hb) fun x zz=>aC zz fun hx aw=>?_;clear zz;subst aw
  rw[h x hx];rfl
 ·exact of_decide_eq_true (h _ (List.mem_map.mpr ⟨b,hb,rfl⟩))
theorem run_eq (g:List Nat):∀ k,nX g k=GX (g.map fun x=>decide (x=0)) k:=by
 intro z0
 induction z0 with
 | zero=>
  exact  rfl
 | succ k ih=>
  rw[vV,N8,ih]
  unfold rD
  rw[show e9 g (k+1)=T9 (g.map fun x=>decide (x=0)) (k+1) from funext fun s=>Rq g (k+1) s]
  try rfl
theorem yf {g:List Nat} (h:g.length=8):match nX g 8 with
  | some (s,z)=>ta (jr (g.map fun x=>decide (x=0)) 0 ⟨0,0,-1,false⟩)=((s:Int),(z:Int))/\1<z
  | none=>(ta (jr (g.map fun x=>decide (x=0)) 0 ⟨0,0,-1,false⟩)).2<=1:=by
 rw[run_eq]
 match g,h with
 | [a,b,c,d,e,f,g,h],_=>
  have:=JW (decide (a=0)) (decide (b=0)) (decide (c=0)) (decide (d=0)) (decide (e=0)) (decide (f=0)) (decide (g=0)) (decide (h=0))
  simp only[List.map_cons,List.map_nil]
  revert this
  cases GX [decide (a=0),decide (b=0),decide (c=0),decide (d=0),decide (e=0),decide (f=0),decide (g=0),decide (h=0)] 8 with
  | none=>intro this;exact of_decide_eq_true this
  | some p=>
   obtain⟨s,z⟩:=p
   intro this
   rw[Bool.and_eq_true] at this
   exact⟨of_decide_eq_true this.1,of_decide_eq_true this.2⟩
theorem GY {v:Nat} (h:v<65536):decide (b7 v=[48])=decide (v=0):=by
 apply decide_eq_decide.mpr
 constructor
 ·intro e
  have:=ly h
  rw[e] at this
  exact (Option.some.inj this).symm
 ·rintro rfl;rfl
theorem GZ {v:Nat} (h:v<65536):decide (b7 v=[102,102,102,102])=decide (v=65535):=by
 apply decide_eq_decide.mpr
 constructor
 ·intro e
  have:=ly h
  rw[e] at this
  exact (Option.some.inj this).symm
 ·rintro rfl;rfl
noncomputable def yg (z:Bool) (i:Nat) (s:Sc):Sc:=if z then (if s.lz then s else { s with st:=i,lz:=true }) else (if s.lz then (if s.bl<(i:Int) - s.st then ⟨s.st,(i:Int) - s.st,s.st,false⟩ else { s with lz:=false }) else s)
noncomputable def Rr (A H W x3 x4 x5:Option V) (s:Sc) (N2 N3 cK dw cU:Option V):Ρ:=[A,H,W,x3,x4,x5,some (.int s.bs),some (.int s.bl),some (.int s.st),some (.bool s.lz),N2,N3,cK,dw,cU]
theorem G0 {D:Fn->List V->R V}{A H x4 x5 dx cG cK dw cU:Option V}{L:List V}{p:Nat}{w:List Nat}{z:Bool} (s:Sc) (hi:il (.list L) (.int p)=.ok (.str w)) (hz:decide (w=[48])=z) :
  ∃ N2 N3,ak D jO (Rr A H (some (.list L)) (some (vi p)) x4 x5 s dx cG cK dw cU)=.next (Rr A H (some (.list L)) (some (vi p)) x4 x5 (yg z p s) N2 N3 cK dw cU):=by
 have C:ao D (.cmp .ne (.idx (.loc 2) (.loc 3)) (.const (.str [48]))) (Rr A H (some (.list L)) (some (vi p)) x4 x5 s dx cG cK dw cU)=.ok (.bool !z):=hz ▸ E.cmp (E.idx rfl rfl rfl hi) rfl rfl
 obtain⟨bs,bl,st,lz⟩:=s
 cases z with
 | true=>cases lz<;>exact⟨_,_,S.one ((S.cO C rfl).trans rfl)⟩
 | false=>
  cases lz with
  | false=>exact⟨_,_,S.one ((S.aF C rfl).trans rfl)⟩
  | true=>
   by_cases hb:bl<(p:Int) - st
   ·refine⟨some (vi p),some (.int ((p:Int) - st)),S.one ((S.aF C rfl).trans (S.one ((S.Tv rfl rfl).trans (S.seq (S.assign rfl) (S.seq (S.assign rfl) (S.seq ((S.aF (E.cmp rfl rfl rfl) (decide_eq_true hb)).trans rfl) ((S.one (S.assign rfl)).trans ?_)))))))⟩
    rw[show yg false p ⟨bs,bl,st,true⟩=⟨st,(p:Int) - st,st,false⟩ from if_pos hb];rfl
   ·refine⟨some (vi p),some (.int ((p:Int) - st)),S.one ((S.aF C rfl).trans (S.one ((S.Tv rfl rfl).trans (S.seq (S.assign rfl) (S.seq (S.assign rfl) (S.seq ((S.cO (E.cmp rfl rfl rfl) (decide_eq_false hb)).trans rfl) ((S.one (S.assign rfl)).trans ?_)))))))⟩
    rw[show yg false p ⟨bs,bl,st,true⟩=⟨bs,bl,st,false⟩ from if_neg hb];rfl
theorem G3 (z:Bool) (r:List Bool) (i:Nat) (s:Sc):jr (z::r) i s=jr r (i+1) (yg z i s):=by cases z<;>rfl
theorem JX {D:Fn->List V->R V}{A H x4 x5 cK dw cU:Option V}{all:List Nat}:∀ (g pre:List Nat) (p:Nat) (x3 dx cG:Option V) (s:Sc),p=pre.length->all=pre++g->(∀ x∈g,x<65536)->
  ∃ a b c,dh 3 (ak D jO) ((List.range' p g.length).map vi) (Rr A H (some (.list ((ws all).map V.str))) x3 x4 x5 s dx cG cK dw cU)=.next (Rr A H (some (.list ((ws all).map V.str))) a x4 x5 (jr (g.map fun x=>decide (x=0)) p s) b c cK dw cU):=by
 intro z0
 induction z0 with
 | nil=>exact fun pre p x3 dx cG s O O O=>⟨x3,dx,cG,rfl⟩
 | cons v r ih=>
  intro pre p x3 dx cG s hp qS hg
  have hi:il (.list ((ws all).map V.str)) (.int p)=.ok (.str (b7 v)):=et (by
   unfold ws
   rw[List.getElem?_map,List.getElem?_map,qS,hp,List.getElem?_append_right (Nat.le_refl _),Nat.sub_self];rfl)
  refine bW (G0 (D:=D) (A:=A) (H:=H) (x4:=x4) (x5:=x5) (dx:=dx) (cG:=cG) (cK:=cK) (dw:=dw) (cU:=cU) s hi (GY (hg v (.head _)))) fun b c h=>?_
  refine eR (ih (pre++[v]) (p+1) (some (vi p)) b c (yg (decide (v=0)) p s) (by rw[hp,List.length_append,List.length_singleton]) (by rw[qS,List.append_assoc];rfl) fun x hx=>hg x (.tail _ hx)) fun a b c e=>?_
  rw[List.map_cons,G3]
  exact⟨a,b,c,F.cons h e⟩
theorem JY {D:Fn->List V->R V}{A H x4 x5 cK dw cU:Option V}{all:List Nat} (g pre:List Nat) (x3 dx cG:Option V) (s:Sc) (qS:all=pre++g) (hg:∀ x∈g,x<65536) :
  ∃ a b c,dh 3 (ak D jO) ((List.range' pre.length g.length).map vi) (Rr A H (some (.list ((ws all).map V.str))) x3 x4 x5 s dx cG cK dw cU)=.next (Rr A H (some (.list ((ws all).map V.str))) a x4 x5 (jr (g.map fun x=>decide (x=0)) pre.length s) b c cK dw cU):=JX g pre pre.length x3 dx cG s rfl qS hg
theorem yh {n:Nat} (b:List Nat) (h:b.length≠16):ae defs (n+1) .fM [.bytes b]=.exc .value:=
 S.k6 (p:=lW) (S.fu ((S.aF (E.cmp (op:=.ne) (x:=vi b.length) (y:=vi 16) rfl rfl (b5 (congrArg Bool.not ((e7 b.length 16).trans (decide_eq_false h))))) rfl).trans rfl))
theorem N9:∀ l:List Nat,bx (l.map hex2)=2*l.length:=by
 intro z0
 induction z0 with
 | nil=>exact  rfl
 | cons x r ih=>rw[List.map_cons,aY,ih,List.length_cons];show 2+_=_;lia
theorem ux:∀ (g:List Nat) (k:Nat),(aK g).drop (2*k)=aK (g.drop k)
 | g,0=>rfl
 | [],k+1=>by simp[p6,iz]
 | x::r,k+1=>by
  rw[show 2*(k+1)=2*k+2 by lia,iz,List.drop_succ_cons,List.drop_succ_cons,List.drop_succ_cons,ux r k]
theorem JZ {W:List (List Nat)} (h4:∀ w∈W,w.length<=4) (h8:W.length<=8):bq .join [.str [58],.list (W.map V.str)]=.ok (.str (bj [58] W))/\(bj [58] W).length<=40:=by
 have h1:bx W<=32:=Nat.le_trans (d9 h4) (Nat.mul_le_mul_left 4 h8)
 exact⟨(jh [58] W).trans (e8 (show bx W+1*W.length<=1000000 by rw[Nat.one_mul];exact Nat.le_trans (Nat.add_le_add h1 h8) (by decide)) rfl),Nat.le_trans (my W) (Nat.add_le_add h1 h8)⟩
theorem J0 {D:Fn->List V->R V}{g:List Nat} (G:nq g):bT D tM [some (.bytes (aK g)),none,none,none,none,none,none,none,none,none,none,none,none,none,none]=.next [some (.bytes (aK g)),some (.bytes (g.map hex4).flatten),none,none,none,none,none,none,none,none,none,none,none,none,none]:=by
 have hl:(aK g).length=16:=by rw[gd,G.len]
 have J1:=cX g G.lt
 have e:ao D (.comp (.bin .add (.slice (.glob iP) (.bin .fdiv (.loc 14) (.const (.int 16))) (.bin .add (.bin .fdiv (.loc 14) (.const (.int 16))) (.const (.int 1)))) (.slice (.glob iP) (.bin .mod (.loc 14) (.const (.int 16))) (.bin .add (.bin .mod (.loc 14) (.const (.int 16))) (.const (.int 1))))) 14 (.val (.loc 0)) (.const (.bool true))) [some (.bytes (aK g)),none,none,none,none,none,none,none,none,none,none,none,none,none,none]=.ok (.list (((aK g).map hex2).map V.bytes)):=by
  refine (E.map (f:=fun x=>match x with | .int i=>.bytes (hex2 i.toNat) | _=>.none) (xs:=vl (aK g)) rfl (by rw[List.length_map,hl];decide) fun x hx=>?_).trans (by rw[List.map_map,List.map_map];rfl)
  refine Exists.elim (List.mem_map.mp hx) fun y zz=>aC zz fun hy aw=>?_;clear zz;subst aw
  have Y9:=J1 y hy
  have a:=E.iR (D:=D) (J:=[some (.bytes (aK g)),none,none,none,none,none,none,none,none,none,none,none,none,none,some (vi y)]) (a:=.loc 14) (m:=y) 16 rfl
  have b:=E.s7 (D:=D) (J:=[some (.bytes (aK g)),none,none,none,none,none,none,none,none,none,none,none,none,none,some (vi y)]) (a:=.loc 14) (m:=y) 16 rfl
  exact E.bin (E.slice rfl a (E.bin a rfl rfl) rfl (uw (Nat.div_lt_of_lt_mul Y9))) (E.slice rfl b (E.bin b rfl rfl) rfl (uw (Nat.mod_lt _ (by decide)))) rfl
 refine S.assign (E.aH rfl rfl (E.one e) ((xM [] _).trans ?_))
 rw[decide_eq_true (show 2<=((aK g).map hex2).length by rw[List.length_map,hl];decide),decide_eq_true (show bx ((aK g).map hex2)+([]:List Nat).length*((aK g).map hex2).length<=lim by rw[N9,hl,List.length_nil,Nat.zero_mul];decide),nM,JV]
 rfl
theorem last_run {D:Fn->List V->R V}{x0 x1 x2 x3 x4 x5 b c cK dw cU:Option V} (s:Sc):∃ y z,bT D qv [x0,x1,x2,x3,x4,x5,some (.int s.bs),some (.int s.bl),some (.int s.st),some (.bool s.lz),b,c,cK,dw,cU]=.next [x0,x1,x2,x3,x4,x5,some (.int (ta s).1),some (.int (ta s).2),some (.int s.st),some (.bool s.lz),y,z,cK,dw,cU]:=by
 obtain⟨bs,bl,st,lz⟩:=s
 unfold ta
 cases lz with
 | false=>exact⟨b,c,S.skip rfl⟩
 | true=>
  by_cases hb:bl<8 - st
  ·exact⟨some (.int 8),some (.int (8 - st)),by dsimp only;rw[if_pos rfl,if_pos hb];exact (S.aF rfl rfl).trans (S.seq (S.assign rfl) (S.seq (S.assign rfl) (S.one ((S.aF (b:=decide (bl<8 - st)) rfl (decide_eq_true hb)).trans rfl))))⟩
  ·exact⟨some (.int 8),some (.int (8 - st)),by dsimp only;rw[if_pos rfl,if_neg hb];exact (S.aF rfl rfl).trans (S.seq (S.assign rfl) (S.seq (S.assign rfl) (S.one (S.skip (E.cmp (op:=.gt) rfl rfl (b5 (decide_eq_false hb)))))))⟩
section
variable {n:Nat}{g:List Nat}{J:Ρ}
theorem J2 (G:nq g) {st z:Nat} (WH:1<z) (hn:ae defs (n+1) .fi [.bytes (aK (g.drop 6))]=.ok (.str (bQ (aK (g.drop 6))))) (hd:(bQ (aK (g.drop 6))).length<=15) {X:Nat->Option V}{y:Option V}
  (h0:X 0=some (.bytes (aK g))) (h2:X 2=some (.list ((ws g).map V.str))):∃ y',bT (ae defs (n+1)) qw [X 0,X 1,X 2,X 3,X 4,X 5,some (vi st),some (vi z),X 8,X 9,X 10,X 11,y,none,none]=.next [X 0,X 1,X 2,X 3,X 4,X 5,some (vi st),some (vi z),X 8,X 9,X 10,X 11,y',some (.str (fT g st z)),none]:=by
 have wl:=G.rE
 have ye:(ws g).length=8:=by rw[ws,List.length_map,G.len]
 have WK:aP (.bytes (aK g)) (.int 12) .none=.ok (.bytes (aK (g.drop 6))):=by
  have:=jS (aK g) 12
  rw[show (12:Nat)=2*6 from rfl,ux] at this
  exact this
 have h5:5<g.length:=by rw[G.len];decide
 have i5:ao (ae defs (n+1)) (.idx (.loc 2) (.const (.int 5))) [X 0,X 1,X 2,X 3,X 4,X 5,some (vi st),some (vi z),X 8,X 9,X 10,X 11,y,none,none]=.ok (.str (b7 (g.getD 5 0))):=
  E.idx (E.loc h2) (y:=vi 5) rfl rfl (et (by unfold ws;rw[List.getElem?_map,List.getElem?_map,List.getD_eq_getElem?_getD,List.getElem?_eq_getElem h5];rfl))
 have WL:g.getD 5 0<65536:=by rw[List.getD_eq_getElem?_getD,List.getElem?_eq_getElem h5];exact G.lt _ (List.getElem_mem h5)
 have hc:ao (ae defs (n+1)) (.and (.cmp .eq (.loc 6) (.const (.int 0))) (.or (.cmp .eq (.loc 7) (.const (.int 6))) (.and (.cmp .eq (.loc 7) (.const (.int 5))) (.cmp .eq (.idx (.loc 2) (.const (.int 5))) (.const (.str [102,102,102,102])))))) [X 0,X 1,X 2,X 3,X 4,X 5,some (vi st),some (vi z),X 8,X 9,X 10,X 11,y,none,none] =
   .ok (.bool (decide (st=0)&&(decide (z=6)||(decide (z=5)&&decide (g.getD 5 0=65535))))):=
  C.and (E.cmp (y:=vi 0) rfl rfl (b5 (e7 st 0))) (C.or (E.cmp (y:=vi 6) rfl rfl (b5 (e7 z 6))) (C.and (E.cmp (y:=vi 5) rfl rfl (b5 (e7 z 5))) (E.cmp i5 rfl (b5 (GZ WL)))))
 have call:∀ (y':Option V),ao (ae defs (n+1)) (.call .fi (.cons (.slice (.loc 0) (.const (.int 12)) (.const .none)) .nil)) [X 0,X 1,X 2,X 3,X 4,X 5,some (vi st),some (vi z),X 8,X 9,X 10,X 11,y',none,none]=.ok (.str (bQ (aK (g.drop 6)))):=fun y'=>
  E.call (E.one (E.slice (E.loc h0) rfl rfl rfl WK)) hn
 have go:ao (ae defs (n+1)) (.cmp .gt (.loc 7) (.const (.int 1))) [X 0,X 1,X 2,X 3,X 4,X 5,some (vi st),some (vi z),X 8,X 9,X 10,X 11,y,none,none]=.ok (.bool true):=E.cmp (y:=vi 1) rfl rfl (b5 ((fP 1 z).trans (decide_eq_true WH)))
 have P8:∀ k:Nat,k<=10->k+(bQ (aK (g.drop 6))).length<=1000000:=fun k hk=>Nat.le_trans (Nat.add_le_add hk hd) (by decide)
 cases hb:decide (st=0)&&(decide (z=6)||(decide (z=5)&&decide (g.getD 5 0=65535))) with
 | true=>
  rw[hb] at hc
  rw[Bool.and_eq_true] at hb
  have X1:=of_decide_eq_true hb.1
  cases h6:decide (z=6) with
  | true=>
   refine⟨some (.str [58,58]),(S.aF go rfl).trans (S.last.trans ((S.aF hc rfl).trans (S.seq ((S.aF (E.cmp (op:=.eq) (x:=vi z) (y:=vi 6) rfl rfl (b5 ((e7 z 6).trans h6))) rfl).trans (S.one (S.assign rfl))) (S.one ((S.assign (E.bin rfl (call _) (adds (s:=[58,58]) (P8 2 (by decide))))).trans ?_)))))⟩
   unfold fT
   rw[if_pos ⟨X1,of_decide_eq_true h6⟩];rfl
  | false=>
   rw[h6,Bool.false_or,Bool.and_eq_true] at hb
   refine⟨some (.str [58,58,102,102,102,102,58]),(S.aF go rfl).trans (S.last.trans ((S.aF hc rfl).trans (S.seq ((S.cO (E.cmp (op:=.eq) (x:=vi z) (y:=vi 6) rfl rfl (b5 ((e7 z 6).trans h6))) rfl).trans (S.one (S.assign rfl))) (S.one ((S.assign (E.bin rfl (call _) (adds (s:=[58,58,102,102,102,102,58]) (P8 7 (by decide))))).trans ?_)))))⟩
   unfold fT
   rw[if_neg (fun q=>of_decide_eq_false h6 q.2),if_pos ⟨X1,of_decide_eq_true hb.2.1,of_decide_eq_true hb.2.2⟩];rfl
 | false=>
  rw[hb] at hc
  have n6:¬ (st=0/\z=6):=fun q=>by rw[decide_eq_true q.1,decide_eq_true q.2] at hb;contradiction
  have n5:¬ (st=0/\z=5/\g.getD 5 0=65535):=fun q=>by rw[decide_eq_true q.1,decide_eq_true q.2.1,decide_eq_true q.2.2,Bool.and_self,Bool.or_true] at hb;contradiction
  refine aC (JZ (W:=(ws g).take st) (fun w hw=>wl w (List.mem_of_mem_take hw)) (by rw[List.length_take,ye];exact Nat.min_le_right _ _)) fun j1 b1=>?_
  refine aC (JZ (W:=(ws g).drop (st+z)) (fun w hw=>wl w (List.mem_of_mem_drop hw)) (by rw[List.length_drop,ye];exact Nat.sub_le _ _)) fun j2 b2=>?_
  have u1:aP (.list ((ws g).map V.str)) .none (vi st)=.ok (.list (((ws g).take st).map V.str)):=by rw[fF,List.map_take]
  have u2:aP (.list ((ws g).map V.str)) (vi (st+z)) .none=.ok (.list (((ws g).drop (st+z)).map V.str)):=by rw[fG,List.map_drop]
  refine⟨y,(S.aF go rfl).trans (S.last.trans ((S.cO hc rfl).trans (S.one ((S.assign (E.bin (E.bin (E.aH rfl rfl (E.one (E.slice (E.loc h2) rfl rfl rfl u1)) j1) rfl (adds (Nat.le_trans (Nat.add_le_add_right b1 2) (by decide)))) (E.aH rfl rfl (E.one (E.slice (E.loc h2) (E.bin (op:=.add) (x:=vi st) (y:=vi z) (r:=.ok (vi (st+z))) rfl rfl rfl) rfl rfl u2)) j2) (adds ?_))).trans ?_))))⟩
  ·rw[List.length_append];exact Nat.le_trans (Nat.add_le_add (Nat.add_le_add_right b1 2) b2) (by decide)
  ·unfold fT
   rw[if_neg n6,if_neg n5];rfl
end
theorem vX {n:Nat}{g:List Nat} (G:nq g):ae defs (n+2) .fM [.bytes (aK g)]=.ok (.str (cR g)):=by
 have hl:(aK g).length=16:=by rw[gd,G.len]
 obtain⟨H,hH⟩:∃ H,H=(g.map hex4).flatten:=⟨_,rfl⟩
 have e1:=J0 (D:=ae defs (n+1)) G
 rw[<- hH] at e1
 refine bW (vW (D:=ae defs (n+1)) (A:=some (.bytes (aK g))) (Y8:=none) (x6:=none) (x7:=none) (x8:=none) (x9:=none) (dx:=none) (cG:=none) (cK:=none) (dw:=none) (cU:=none) (H:=H) g [] [] 99991 none G.lt hH (by rw[G.len];decide)) fun o i e5=>?_
 rw[G.len] at e5
 refine eR (JY (D:=ae defs (n+1)) (A:=some (.bytes (aK g))) (H:=some (.bytes H)) (x4:=some (vi H.length)) (x5:=o) (cK:=none) (dw:=none) (cU:=none) (all:=g) g [] i none none ⟨0,0,-1,false⟩ rfl G.lt) fun a b c S7=>?_
 rw[G.len] at S7
 have pI:=yf G.len
 unfold cR
 revert S7 pI
 rw[List.length_nil]
 generalize jr (g.map fun x=>decide (x=0)) 0 ⟨0,0,-1,false⟩=s
 intro S7 pI
 refine bW (last_run (D:=ae defs (n+1)) (x0:=some (.bytes (aK g))) (x1:=some (.bytes H)) (x2:=some (.list ((ws g).map V.str))) (x3:=a) (x4:=some (vi H.length)) (x5:=o) (b:=b) (c:=c) (cK:=none) (dw:=none) (cU:=none) s) fun N2 N3 WM=>?_
 have start:∀ {z:SR},ak (ae defs (n+1)) qx [some (.bytes (aK g)),some (.bytes H),some (.list ((ws g).map V.str)),a,some (vi H.length),o,some (.int (ta s).1),some (.int (ta s).2),some (.int s.st),some (.bool s.lz),N2,N3,none,none,none]=z->
   ak (ae defs (n+1)) lW [some (.bytes (aK g)),none,none,none,none,none,none,none,none,none,none,none,none,none,none]=z:=fun h=>
  S.seq (S.skip (E.cmp (op:=.ne) (x:=vi (aK g).length) (y:=vi 16) rfl rfl (b5 (congrArg Bool.not ((e7 _ 16).trans (decide_eq_true hl)))))) (S.seq e1 (S.seq (S.own (l:=[]) rfl) (S.seq (S.assign rfl) (S.seq (S.assign rfl) (S.seq e5 (S.seq (S.assign rfl) (S.seq (S.assign rfl) (S.seq (S.assign rfl) (S.seq (S.assign rfl) (S.seq (S.for (fE (k:=8) rfl (by decide)) (by decide) S7) (S.seq WM h)))))))))))
 have ye:(ws g).length=8:=by rw[ws,List.length_map,G.len]
 cases Ua:nX g 8 with
 | none=>
  rw[Ua] at pI
  refine aC (JZ G.rE (Nat.le_of_eq ye)) fun aaQ O=>?_
  refine S.val (p:=lW) (start (S.seq ((S.cO (E.cmp (op:=.gt) (x:=.int (ta s).2) (y:=.int 1) rfl rfl (b5 (decide_eq_false (Int.not_lt.mpr pI)))) rfl).trans (S.one (S.assign (E.aH rfl rfl (E.one rfl) aaQ)))) (S.end (S.ret rfl))))
 | some sz=>
  obtain⟨st,z⟩:=sz
  rw[Ua] at pI
  dsimp only at pI ⊢
  refine aC pI fun hf WH=>?_
  rw[hf] at start
  refine bW G.tail fun p q zz=>b6 zz fun ht hp hq=>?_
  have S8:∀ x∈aK (g.drop 6),x<256:=cX _ fun y hy=>G.lt y (List.mem_of_mem_drop hy)
  have h4:(aK (g.drop 6)).length=4:=by rw[ht];rfl
  have hd:(bQ (aK (g.drop 6))).length<=15:=by
   rw[ht] at S8 ⊢
   exact mz (S8 _ (.head _)) (S8 _ (.tail _ (.head _))) (S8 _ (.tail _ (.tail _ (.head _)))) (S8 _ (.tail _ (.tail _ (.tail _ (.head _)))))
  obtain⟨X,hX⟩:∃ X:Nat->Option V,X=fun i=>[some (.bytes (aK g)),some (.bytes H),some (.list ((ws g).map V.str)),a,some (vi H.length),o,none,none,some (.int s.st),some (.bool s.lz),N2,N3].getD i none:=⟨_,rfl⟩
  refine Exists.elim (J2 (n:=n) G (st:=st) (z:=z) WH (by rw[p7 _ S8,if_pos h4]) hd (X:=X) (y:=none) (by rw[hX];rfl) (by rw[hX];rfl)) fun Wv V2=>?_
  rw[hX] at V2
  exact S.val (p:=lW) (start (S.seq V2 (S.end (S.ret rfl))))
theorem lA {c:Nat}:∀ {W:List (List Nat)},W≠[]->(∀ w∈W,c∉w)->ai c (bj [c] W)=W
 | [w],_,h=>bz (h w (.head _))
 | w::x::r,_,h=>by
  rw[aV,List.append_assoc]
  show ai c (w++c::bj [c] (x::r))=_
  rw[aW,bz (h w (.head _)),lA (by simp) fun y hy=>h y (.tail _ hy)]
  rfl
theorem uy {W:List (List Nat)} (h:∀ w∈W,w≠[]/\58∉w):(bj [58] W).head?≠some 58:=by
 match W,h with
 | [],_=>simp[dg,ck,aV]
 | [w],h=>
  refine aC (h w (.head _)) fun h1 h2=>?_
  cases w with
  | nil=>exact absurd rfl h1
  | cons x r=>rw[ck];intro e;simp at e;exact h2 (by rw[e];exact .head _)
 | w::y::r,h=>
  refine aC (h w (.head _)) fun h1 h2=>?_
  cases w with
  | nil=>exact absurd rfl h1
  | cons x r'=>
   rw[aV]
   intro e;simp at e;exact h2 (by rw[e];exact .head _)
theorem G4 {W:List (List Nat)} (h:∀ w∈W,w≠[]/\58∉w):(bj [58] W).getLast?≠some 58:=by
 induction W with
 | nil=>simp[dg,ck,aV]
 | cons w r ih=>
  refine aC (h w (.head _)) fun h1 h2=>?_
  have Ub:=ih fun x hx=>h x (.tail _ hx)
  cases r with
  | nil=>
   intro e
   exact h2 (List.mem_of_getLast? e)
  | cons y r'=>
   rw[aV]
   rcases List.eq_nil_or_concat (bj [58] (y::r')) with q | ⟨s,z,q⟩
   ·have h3:=(h y (.tail _ (.head _))).1
    exfalso
    cases r' with
    | nil=>exact h3 q
    | cons v r''=>rw[aV] at q;simp at q
   ·rw[q,List.concat_eq_append] at Ub ⊢
    rw[List.getLast?_concat] at Ub
    rw[<- List.append_assoc,List.getLast?_concat]
    exact Ub
theorem G5:∀ {w:List Nat} (n:Nat),58∉w->aX n (w++[58])=[]:=by
 intro z0
 induction z0 with
 | nil=>
  exact fun n O=>rfl
 | cons x r ih=>
  intro n h
  rw[List.cons_append,bR,if_neg fun q=>h (by rw[q.1];exact .head _)]
  exact ih _ fun q=>h (.tail _ q)
theorem jZ:∀ {W:List (List Nat)} (n:Nat),(∀ w∈W,w≠[]/\58∉w)->aX n (bj [58] W)=[]
 | [],n,_=>rfl
 | [w],n,h=>fH (h w (.head _)).2 n
 | w::x::r,n,h=>by
  have hr:∀ y∈x::r,y≠[]/\58∉y:=fun y hy=>h y (.tail _ hy)
  rw[aV,jW (jZ 0 hr) (uy hr),G5 _ (h w (.head _)).2]
set_option tactic.hygienic true in
theorem J3:∀ {L R:List Nat}{n:Nat},aX n L=[]->L.getLast?≠some 58->aX n (L++58::58::R)=(n+L.length)::aX (n+L.length+1) (58::R):=by
 intro z0
 induction z0 with
 | nil=>
  intro R n _ _
  rw[List.nil_append,bR,if_pos ⟨rfl,rfl⟩];rfl
 | cons x r ih=>
  intro R n h hl
  rw[bR] at h
  split at h
  ·contradiction
  ·rename_i q
   have hr:r.getLast?≠some 58:=by
    cases r with
    | nil=>simp
    | cons y r'=>rwa [List.getLast?_cons_cons] at hl
   rw[List.cons_append,bR,if_neg,ih h hr,List.length_cons,show n+1+r.length=n+(r.length+1) by lia]
   rintro ⟨rfl,hh⟩
   cases r with
   | nil=>exact hl rfl
   | cons y r'=>exact q ⟨rfl,hh⟩
theorem Oa {R:List Nat} (n:Nat) (h:R.head?≠some 58) (hc:aX 0 R=[]):aX n (58::R)=[]:=by
 rw[bR,if_neg fun q=>h q.2]
 exact nP hc
theorem rF {L R l r:List Nat} (h1:aX 0 L=[]) (h2:L.getLast?≠some 58) (h3:R.head?≠some 58) (h4:aX 0 R=[]) (e1:a8 L false=some l) (e2:a8 R true=some r) (h7:l.length+r.length<=7) :
  bB (L++58::58::R)=some (l++List.replicate (8 - l.length - r.length) 0++r):=by
 unfold bB
 rw[J3 h1 h2,Oa _ h3 h4,Nat.zero_add]
 dsimp only
 rw[List.take_left,<- List.drop_drop,List.drop_left]
 show (match a8 L false,a8 R true with
  | some l,some r=>if l.length+r.length<=7 then some (l++List.replicate (8 - l.length - r.length) 0++r) else none
  | _,_=>none)=_
 rw[e1,e2]
 dsimp only
 rw[if_pos h7]
theorem rG {c:Nat} (h:hexChar c):c≠58/\c≠46/\c≠37/\c≠10/\c<128:=by
 unfold hexChar at h;lia
theorem gT {g:List Nat} (h:∀ x∈g,x<65536):∀ w∈g.map b7,w≠[]/\58∉w:=fun w hw=>by
 refine Exists.elim (List.mem_map.mp hw) fun x zz=>aC zz fun hx aw=>?_;clear zz;subst aw
 exact⟨N7 (h x hx),fun q=>(rG (rC 58 q)).1 rfl⟩
theorem Bb (e:Bool):∀ {g:List Nat},(∀ x∈g,x<65536)->bK (g.map b7) e=some g:=by
 intro z0
 induction z0 with
 | nil=>
  exact fun O=>rfl
 | cons x r ih=>
  intro h
  rw[List.map_cons,fI,ly (h x (.head _)),ih fun y hy=>h y (.tail _ hy)]
  rfl
theorem nY (e:Bool) {g:List Nat} (h:∀ x∈g,x<65536):a8 (bj [58] (g.map b7)) e=some g:=by
 unfold a8
 cases g with
 | nil=>rfl
 | cons x r=>
  have hw:=gT h
  have hs:=lA (c:=58) (W:=(x::r).map b7) (by simp) fun w P9=>(hw w P9).2
  rw[if_neg,hs]
  ·exact Bb e h
  ·intro q
   rw[q] at hs
   have:=(hw _ (List.mem_map.mpr ⟨x,.head _,rfl⟩)).1
   rw[List.map_cons] at hs
   have h2:[]=b7 x:=(List.cons.inj hs).1
   exact this h2.symm
theorem j0 {v:Nat} (h:v<256):gO (bI (v:Int))/\digitsVal (bI (v:Int))=v/\46∉bI (v:Int)/\58∉bI (v:Int)/\bI (v:Int)≠[]:=by
 have:∀ v:Fin 256,gO (bI ((v.1:Nat):Int))/\digitsVal (bI ((v.1:Nat):Int))=v.1/\46∉bI ((v.1:Nat):Int)/\58∉bI ((v.1:Nat):Int)/\bI ((v.1:Nat):Int)≠[]:=by decide +kernel
 exact this ⟨v,h⟩
theorem G6 {l:List Nat} (hl:l.length=4) (h:∀ x∈l,x<256):aI (bQ l)=l:=by
 have hs:ai 46 (bQ l)=l.map fun n:Nat=>bI n:=by
  refine lA (fun q=>?_) fun w hw=>?_
  ·have:=congrArg List.length q
   rw[List.length_map,hl] at this
   contradiction
  ·refine Exists.elim (List.mem_map.mp hw) fun x zz=>aC zz fun hx aw=>?_;clear zz;subst aw
   exact (j0 (h x hx)).2.2.1
 rw[dY,hs,if_pos]
 ·rw[List.map_map]
  have:∀ l:List Nat,(∀ x∈l,x<256)->l.map (digitsVal∘fun n:Nat=>bI n)=l:=by
   intro l
   induction l with
   | nil=>intro _;rfl
   | cons x r ih=>
    intro hh
    rw[List.map_cons,ih fun y hy=>hh y (.tail _ hy)]
    congr 1
    exact (j0 (hh x (.head _))).2.1
  exact this l h
 ·refine⟨by rw[List.length_map,hl],fun q hq=>?_⟩
  refine Exists.elim (List.mem_map.mp hq) fun x zz=>aC zz fun hx aw=>?_;clear zz;subst aw
  exact (j0 (h x hx)).1
theorem G7 {l:List Nat} (h:∀ x∈l,x<256):58∉bQ l:=by
 unfold bQ
 induction l with
 | nil=>simp[dg,ck,aV]
 | cons x r ih=>
  have h1:=(j0 (h x (.head _))).2.2.2.1
  have Ub:=ih fun y hy=>h y (.tail _ hy)
  cases r with
  | nil=>rw[List.map_cons,List.map_nil,ck];exact h1
  | cons y r'=>
   rw[List.map_cons,List.map_cons,aV]
   ·intro q
    rcases List.mem_append.mp q with q | q
    ·rcases List.mem_append.mp q with q | q
     ·exact h1 q
     ·cases List.mem_singleton.mp q
    ·exact Ub q
theorem Bc {p q:Nat} (hp:p<65536) (hq:q<65536):nK (aK [p,q])=[p,q]:=by
 show [p / 256*256+p % 256,q / 256*256+q % 256]=_
 rw[show p / 256*256+p % 256=p by lia,show q / 256*256+q % 256=q by lia]
set_option tactic.hygienic true in
theorem G8 {g:List Nat}:∀ {k s z:Nat},k<=8->nX g k=some (s,z)->e9 g z s=true/\s+z<=8/\1<z:=by
 intro z0
 induction z0 with
 | zero=>
  intro s z _ h
  contradiction
 | succ k ih=>
  intro s z hk h
  rw[vV] at h
  split at h
  ·contradiction
  ·rename_i h0
   split at h
   ·rename_i s' q
    cases h
    unfold rD at q
    have h1:=List.find?_some q
    have h2:=List.mem_of_find?_eq_some q
    rw[List.mem_range'_1] at h2
    exact⟨h1,by lia,by lia⟩
   ·exact ih (by lia) h
theorem iE {g:List Nat} (G:nq g):bB (cR g)=some g:=by
 unfold cR
 cases hr:nX g 8 with
 | none=>
  dsimp only
  have hw:=gT G.lt
  unfold bB ws
  rw[jZ 0 hw]
  dsimp only
  rw[nY true G.lt]
  dsimp only
  rw[if_pos G.len]
 | some p=>
  obtain⟨s,z⟩:=p
  refine b6 (G8 (Nat.le_refl _) hr) fun h1 h2 h3=>?_
  have hz:=of_decide_eq_true h1
  refine bW G.tail fun p q zz=>b6 zz fun ht hp hq=>?_
  have J1:∀ x∈aK [p,q],x<256:=cX [p,q] (fun y hy=>by
   simp only[List.mem_cons,List.not_mem_nil,or_false] at hy
   rcases hy with rfl | rfl<;>assumption)
  have X2:aI (bQ (aK [p,q]))=aK [p,q]:=G6 rfl J1
  have Ro:aI (bQ (aK [p,q]))≠[]:=by rw[X2];simp[p6,iz]
  have Qa:=iB Ro
  have Za:bQ (aK [p,q])≠[]:=fun e=>by have:=mr Qa;rw[e] at this;cases this
  have sN:=G7 J1
  have TK:bK [bQ (aK [p,q])] true=some [p,q]:=by
   rw[fI,fS Qa]
   dsimp only
   rw[if_pos ⟨Ro,rfl,rfl⟩,X2,Bc hp hq]
  dsimp only
  unfold fT
  rw[ht]
  by_cases h6:s=0/\z=6
  ·rw[if_pos h6]
   refine aC h6 fun aw gS=>?_;try clear h6;subst aw;subst gS
   have e2:a8 (bQ (aK [p,q])) true=some [p,q]:=by
    unfold a8
    rw[if_neg Za,bz sN]
    exact TK
   have:=rF (L:=[]) (R:=bQ (aK [p,q])) (l:=[]) (r:=[p,q]) rfl (by simp) (fun e=>sN (List.mem_of_mem_head? e)) (fH sN 0) rfl e2 (by simp)
   rw[show ([58,58]:List Nat)++bQ (aK [p,q])=[]++58::58::bQ (aK [p,q]) from rfl,this]
   congr 1
   rw[<- List.take_append_drop 6 g,ht]
   rw[List.drop_zero] at hz
   rw[hz]
   rfl
  ·rw[if_neg h6]
   by_cases h5:s=0/\z=5/\g.getD 5 0=65535
   ·rw[if_pos h5]
    refine b6 h5 fun aw gS hf=>?_;try clear h5;subst aw;subst gS
    have e2:a8 ([102,102,102,102]++58::bQ (aK [p,q])) true=some [65535,p,q]:=by
     unfold a8
     rw[if_neg (by simp),aW,bz sN,bz (by decide)]
     show bK ([102,102,102,102]::[bQ (aK [p,q])]) true=_
     rw[fI,show aR [102,102,102,102]=some 65535 from rfl,TK]
     rfl
    have hc:aX 0 ([102,102,102,102]++58::bQ (aK [p,q]))=[]:=by
     rw[show ([102,102,102,102]:List Nat)++58::bQ (aK [p,q])=[102,102,102,102,58]++bQ (aK [p,q]) from rfl,jW (fH sN 0) (fun e=>sN (List.mem_of_mem_head? e))]
     rfl
    have:=rF (L:=[]) (l:=[]) (r:=[65535,p,q]) rfl (by simp) (by simp) hc rfl e2 (by simp)
    rw[show ([58,58,102,102,102,102,58]:List Nat)++bQ (aK [p,q])=[]++58::58::([102,102,102,102]++58::bQ (aK [p,q])) from by simp only[List.nil_append,List.cons_append],this]
    refine congrArg some ?_
    have WN:g.drop 5=[65535,p,q]:=by
     have h5:5<g.length:=by rw[G.len];decide
     rw[List.drop_eq_getElem_cons h5,ht]
     refine congrArg (·::[p,q]) ?_
     rw[List.getD_eq_getElem?_getD,List.getElem?_eq_getElem h5] at hf
     exact hf
    rw[<- List.take_append_drop 5 g,WN]
    rw[List.drop_zero] at hz
    rw[hz]
    rfl
   ·rw[if_neg h5]
    have g1:∀ x∈g.take s,x<65536:=fun x hx=>G.lt x (List.mem_of_mem_take hx)
    have g2:∀ x∈g.drop (s+z),x<65536:=fun x hx=>G.lt x (List.mem_of_mem_drop hx)
    unfold ws
    rw[<- List.map_take,<- List.map_drop]
    have l1:(g.take s).length=s:=by rw[List.length_take,G.len];omega
    have l2:(g.drop (s+z)).length=8 - s - z:=by rw[List.length_drop,G.len];omega
    have:=rF (jZ 0 (gT g1)) (G4 (gT g1)) (uy (gT g2)) (jZ 0 (gT g2)) (nY false g1) (nY true g2) (by omega)
    rw[List.append_assoc]
    show bB (bj [58] ((g.take s).map b7)++58::58::bj [58] ((g.drop (s+z)).map b7))=_
    rw[this,l1,l2]
    congr 1
    rw[show 8 - s - (8 - s - z)=z by omega,<- hz,List.append_assoc]
    rw[<- List.drop_drop,List.take_append_drop,List.take_append_drop]
structure Txt (t:List Nat):Prop where
 asc:∀ c∈t,c<128
 nl:10∉t
 len:t.length<=520
theorem jt {s:List Nat}:∀ {W:List (List Nat)}{c:Nat},c∈bj s W->c∈s∨∃ w∈W,c∈w
 | [],c,h=>by contradiction
 | [w],c,h=>by skip;exact .inr ⟨w,.head _,h⟩
 | w::x::r,c,h=>by
  rw[aV] at h
  ·rcases List.mem_append.mp h with h | h
   ·rcases List.mem_append.mp h with h | h
    ·exact .inr ⟨w,.head _,h⟩
    ·exact .inl h
   ·rcases jt h with h | ⟨y,hy,hc⟩
    ·exact .inl h
    ·exact .inr ⟨y,.tail _ hy,hc⟩
theorem uz {g:List Nat} (G:nq g):Txt (cR g):=by
 have wl:=G.rE
 have ye:(ws g).length=8:=by rw[ws,List.length_map,G.len]
 refine bW G.tail fun p q zz=>b6 zz fun ht hp hq=>?_
 have S6:(bQ (aK [p,q])).length<=15:=mz (by lia) (by lia) (by lia) (by lia)
 have V3:∀ c∈bQ (aK [p,q]),c<128/\c≠10:=fun c hc=>by
  have:∀ v:Fin 256,∀ c∈bI ((v.1:Nat):Int),c<128/\c≠10:=by decide +kernel
  rcases jt hc with h | ⟨w,hw,h⟩
  ·rw[List.mem_singleton.mp h];decide
  ·refine Exists.elim (List.mem_map.mp hw) fun v zz=>aC zz fun hv aw=>?_;clear zz;subst aw
   have V0:v<256:=cX [p,q] (fun y hy=>by
    simp only[List.mem_cons,List.not_mem_nil,or_false] at hy
    rcases hy with rfl | rfl<;>assumption) v hv
   exact this ⟨v,V0⟩ c h
 have hw:∀ w∈ws g,∀ c∈w,c<128/\c≠10:=fun w hw c hc=>by
  refine Exists.elim (List.mem_map.mp hw) fun x zz=>aC zz fun hx aw=>?_;clear zz;subst aw
  have:=rG (rC c hc)
  exact⟨this.2.2.2.2,this.2.2.2.1⟩
 have hj:∀ W:List (List Nat),(∀ w∈W,w∈ws g)->∀ c∈bj [58] W,c<128/\c≠10:=fun W hW c hc=>by
  rcases jt hc with h | ⟨w,P9,h⟩
  ·rw[List.mem_singleton.mp h];decide
  ·exact hw w (hW w P9) c h
 have hlen:∀ W:List (List Nat),(∀ w∈W,w∈ws g)->W.length<=8->(bj [58] W).length<=40:=fun W hW h8=>by
  have h1:=my W
  have h2:=d9 (k:=4) fun w P9=>wl w (hW w P9)
  lia
 have main:(∀ c∈cR g,c<128/\c≠10)/\(cR g).length<=520:=by
  unfold cR
  cases nX g 8 with
  | none=>exact⟨hj _ fun w h=>h,Nat.le_trans (hlen _ (fun w h=>h) (by lia)) (by decide)⟩
  | some sz=>
   obtain⟨s,z⟩:=sz
   dsimp only
   unfold fT
   rw[ht]
   have c2:∀ c∈([58,58]:List Nat),c<128/\c≠10:=by decide
   have c7:∀ c∈([58,58,102,102,102,102,58]:List Nat),c<128/\c≠10:=by decide
   split
   ·exact⟨fun c hc=>(List.mem_append.mp hc).elim (c2 c) (V3 c),by rw[List.length_append];show 2+_<=520;lia⟩
   ·split
    ·exact⟨fun c hc=>(List.mem_append.mp hc).elim (c7 c) (V3 c),by rw[List.length_append];show 7+_<=520;lia⟩
    ·have h1:=hlen ((ws g).take s) (fun w h=>List.mem_of_mem_take h) (by rw[List.length_take];lia)
     have h2:=hlen ((ws g).drop (s+z)) (fun w h=>List.mem_of_mem_drop h) (by rw[List.length_drop];lia)
     refine⟨fun c hc=>?_,by rw[List.length_append,List.length_append];show _+2+_<=520;lia⟩
     rcases List.mem_append.mp hc with hc | hc
     ·rcases List.mem_append.mp hc with hc | hc
      ·exact hj _ (fun w h=>List.mem_of_mem_take h) c hc
      ·exact c2 c hc
     ·exact hj _ (fun w h=>List.mem_of_mem_drop h) c hc
 exact⟨fun c hc=>(main.1 c hc).1,fun h=>(main.1 10 h).2 rfl,main.2⟩
noncomputable def r6 (t:List Nat):R V:=jm ((bB t).map aK)
noncomputable def rs (t:List Nat):R V:=jm ((bY t).map aK)
noncomputable def r4 (t:List Nat):R V:=k8 (aI t)
theorem rH {D:Fn->List V->R V}{f g:Fn}{as bs:List V}{r s y:R V}{p:aB}{J:Ρ} (h:D f as=r) (k:D g bs=s)
  (e1:∀ ψ:Fn->List V->R V,(ak ψ p J).value=(ak (fun z bs=>if z.ctorIdx=f.ctorIdx then ψ f as else ψ z bs) p J).value) (e2:∀ ψ:Fn->List V->R V,(ak (fun z bs=>if z.ctorIdx=f.ctorIdx then r else ψ z bs) p J).value=(ak (fun z O=>if z.ctorIdx=f.ctorIdx then r else ψ g bs) p J).value)
  (e3:(ak (fun z O=>if z.ctorIdx=f.ctorIdx then r else s) p J).value=y):(ak D p J).value=y:=by rw[e1,h,e2,k];exact e3
section
variable {n:Nat}{t:List Nat}
theorem e6 (T:Txt t):ae defs (n+2) .bN [.str t]=r6 t:=by rw[N5 t T.asc T.nl T.len,iC];rfl
theorem Zb (T:Txt t):ae defs (n+2) .bN [.bytes t]=r6 t:=by rw[JH t T.asc T.nl T.len,iC];rfl
theorem WO (T:Txt t):ae defs (n+2) .bN [.str t,.bool true]=rs t:=by rw[JJ t T.asc T.nl T.len,ya];rfl
theorem e4 (T:Txt t):ae defs (n+1) .eB [.str t]=r4 t:=NR t (fQ T.asc) T.len
theorem Qb (h:aI t=[]):r4 t=.exc .syntax:=if_pos h
theorem J4 (h:aI t≠[]):r4 t=.ok (.bytes (aI t)):=if_neg h
theorem J5 (T:Txt t):ae defs (n+2) .i6 [.str t]=if aI t=[] then .exc .syntax else .ok (.str t):=by
 by_cases hq:aI t=[]
 ·rw[if_pos hq]
  exact rH (p:=qu) (J:=[some (.str t)]) (f:=.eB) (g:=.fi) (as:=[.str t]) (bs:=[]) ((e4 T).trans (Qb hq)) rfl (fun O=>rfl) (fun O=>rfl) rfl
 ·refine kR (dF hq) fun a b c d zz=>p4 zz fun e ha hb hc hd=>?_
  have h2:ae defs (n+1) .fi [.bytes (aI t)]=.ok (.str t):=by
   rw[p7 _ (fun x hx=>by
    rw[e] at hx
    simp only[List.mem_cons,List.not_mem_nil,or_false] at hx
    rcases hx with rfl | rfl | rfl | rfl<;>assumption),if_pos (by rw[e];rfl),(lr hq).WB]
  rw[if_neg hq]
  exact rH (p:=qu) (J:=[some (.str t)]) (f:=.eB) (g:=.fi) ((e4 T).trans (J4 hq)) h2 (fun O=>rfl) (fun O=>rfl) rfl
theorem rI {g:List Nat} (h:g.length=8/\∀ x∈g,x<65536):nq g:=⟨h.1,h.2⟩
theorem J6 (T:Txt t):ae defs (n+3) .i7 [.str t]=match bB t with
  | some g=>.ok (.str (cR g))
  | none=>.exc .syntax:=by
 have h6:=e6 (n:=n) T
 unfold r6 at h6
 cases hr:bB t with
 | none=>
  rw[hr] at h6
  exact rH (p:=qC) (J:=[some (.str t)]) (f:=.bN) (g:=.fM) (bs:=[]) h6 rfl (fun O=>rfl) (fun O=>rfl) rfl
 | some g=>
  rw[hr] at h6
  exact rH (p:=qC) (J:=[some (.str t)]) (f:=.bN) (g:=.fM) h6 (vX (rI (iD hr))) (fun O=>rfl) (fun O=>rfl) rfl
noncomputable def dq (t:List Nat):R V:=match bB t with
 | some g=>.ok (.str (cR g))
 | none=>if aI t=[] then .exc .value else .ok (.str t)
theorem mA (T:Txt t):ae defs (n+4) .eY [.str t]=dq t:=by
 refine rH (p:=xc) (J:=[some (.str t)]) (f:=.i7) (g:=.i6) (J6 T) (J5 T) (fun O=>rfl) ?_ ?_
 ·intro ψ
  cases bB t<;>rfl
 ·unfold dq
  cases bB t with
  | some g=>rfl
  | none=>
   by_cases hq:aI t=[]
   ·rw[if_pos hq,if_pos hq];rfl
   ·rw[if_neg hq,if_neg hq];rfl
theorem S.retv {D:Fn->List V->R V}{J:Ρ}{e:PE}{r:aB}:(ak D (.cons (.ret e) r) J).value=ao D e J:=by
 show (((ao D e J).on J fun v=>.ret v).then (ak D r)).value=_
 cases ao D e J<;>rfl
theorem S.X3 {D:Fn->List V->R V}{J:Ρ}{a b:PE}{f:Int} (h:ao D (.loc 0) J=.ok (.int f)):(ak D (.cons (.ite (.cmp .eq (.loc 0) (.glob fB)) (.cons (.ret a) .nil) (.cons (.ite (.cmp .eq (.loc 0) (.glob eF)) (.cons (.ret b) .nil) (.cons (.raise .bX .nil) .nil)) .nil)) .nil) J).value
  = if f=2 then ao D a J else if f=10 then ao D b J else .exc .bX:=by
 rw[S.last]
 by_cases h2:f=2
 ·rw[if_pos h2,S.aF (E.cmp h rfl rfl) (decide_eq_true h2)];exact S.retv
 ·rw[if_neg h2,S.cO (E.cmp h rfl rfl) (decide_eq_false h2),S.last]
  by_cases oX:f=10
  ·rw[if_pos oX,S.aF (E.cmp h rfl rfl) (decide_eq_true oX)];exact S.retv
  ·rw[if_neg oX,S.cO (E.cmp h rfl rfl) (decide_eq_false oX)];rfl
theorem Rt (f:Int):ae defs (n+1) .uS [.int f,.str t]=if f=2 then ae defs n .eB [.str t] else if f=10 then ae defs n .bN [.str t,.bool true] else .exc .bX:=
 S.X3 (D:=ae defs n) (J:=[some (.int f),some (.str t)]) rfl
theorem Ru (f:Int) (v:V):ae defs (n+1) .uT [.int f,v]=if f=2 then ae defs n .fi [v] else if f=10 then ae defs n .fM [v] else .exc .bX:=
 S.X3 (D:=ae defs n) (J:=[some (.int f),some v]) rfl
noncomputable def Qc (t:List Nat):R V:=if aI t=[] then (match bY t with | some _=>.ok (.int 10) | none=>.exc .value) else .ok (.int 2)
noncomputable def Qd (t:List Nat):R V:=if aI t=[] then (match bY t with | some _=>.ok (.bool true) | none=>.ok (.bool false)) else .ok (.bool true)
noncomputable def Qe (t:List Nat):R V:=if aI t=[] then (match bY t with | some g=>.ok (.bool (decide (65280<=g.getD 0 0))) | none=>.exc .value) else .ok (.bool (decide ((aI t).getD 0 0 / 16=14)))
theorem both {y z:R V}{p:aB}{J:Ρ} (T:Txt t)
  (e1:∀ ψ:Fn->List V->R V,(ak ψ p J).value=(ak (fun z bs=>if z.ctorIdx=1 then ψ .eB [.str t] else ψ z bs) p J).value)
  (e2:∀ ψ:Fn->List V->R V,(ak (fun z bs=>if z.ctorIdx=1 then .exc .syntax else ψ z bs) p J).value=(ak (fun z O=>if z.ctorIdx=1 then .exc .syntax else ψ .bN [.str t,.bool true]) p J).value)
  (hn:bY t=none->(ak (fun z O=>if z.ctorIdx=1 then .exc .syntax else .exc .syntax) p J).value=y)
  (hs:∀ g,bY t=some g->(ak (fun z O=>if z.ctorIdx=1 then .exc .syntax else .ok (.bytes (aK g))) p J).value=y)
  (hq:aI t≠[]->(ak (fun f as=>if f.ctorIdx=1 then .ok (.bytes (aI t)) else ae defs (n+2) f as) p J).value=z):(ak (ae defs (n+2)) p J).value=if aI t=[] then y else z:=by
 by_cases h:aI t=[]
 ·rw[if_pos h,e1,e4 T,Qb h,e2,WO T]
  unfold rs
  cases q:bY t with
  | none=>exact hn q
  | some g=>exact hs g q
 ·rw[if_neg h,e1,e4 T,J4 h]
  exact hq h
theorem Ob (T:Txt t):ae defs (n+3) .oN [.str t]=Qc t:=
 both (p:=CQ) (J:=[some (.str t)]) T (fun O=>rfl) (fun O=>rfl) (fun q=>by rw[q];rfl) (fun g q=>by rw[q];rfl) fun O=>rfl
theorem J7 (T:Txt t):ae defs (n+3) .i9 [.str t]=Qd t:=
 both (p:=w9) (J:=[some (.str t)]) T (fun O=>rfl) (fun O=>rfl) (fun q=>by rw[q];rfl) (fun g q=>by rw[q];rfl) fun O=>rfl
theorem Oc (T:Txt t):ae defs (n+3) .multi [.str t]=Qe t:=by
 refine both (p:=CT) (J:=[some (.str t),none]) T (fun O=>rfl) (fun O=>rfl) (fun q=>by rw[q];rfl) (fun g q=>?_) fun q=>?_
 ·rw[q]
  refine aC (ur q) fun hl hg=>?_
  cases g with
  | nil=>contradiction
  | cons x r=>exact b5 (a:=decide (((x / 256:Nat):Int)=255)) (decide_eq_decide.mpr (by have:=hg x (.head _);rw[List.getD_cons_zero];lia))
 ·refine kR (dF q) fun a b c d zz=>p4 zz fun e ha hb hc hd=>?_
  rw[e]
  refine (S.val (S.end (S.C4 (S.seq (S.assign (v:=.int a) rfl) (S.end (S.ret (C.and (x:=decide (224<=(a:Int))) (y:=decide ((a:Int)<=239)) rfl rfl))))))).trans (b5 ?_)
  rw[<- Bool.decide_and]
  exact decide_eq_decide.mpr (by rw[List.getD_cons_zero];lia)
theorem Od (n:Nat):bI (Int.negSucc n)=45::bI ((n+1:Nat):Int):=by
 show (("-"++toString (n+1)).toList.map Char.toNat)=_
 rw[String.toList_append];rfl
theorem G9 {f:Int} (hf:f.natAbs<1000):(bI f).length<=100000:=by
 cases f with
 | ofNat n=>exact Nat.le_trans (ji hf) (by decide)
 | negSucc n=>rw[Od,List.length_cons];exact Nat.le_trans (Nat.succ_le_succ (ji hf)) (by decide)
theorem Oe {f:Int} (hf:f.natAbs<1000):ae defs (n+1) .oO [.int f]=if f=2 then .ok (.str [48,46,48,46,48,46,48]) else if f=10 then .ok (.str [58,58]) else .exc .bX:=by
 show (ak (ae defs n) CV [some (.int f)]).value=_
 by_cases h2:f=2
 ·rw[if_pos h2];subst h2;rfl
 ·rw[if_neg h2]
  by_cases oX:f=10
  ·rw[if_pos oX];subst oX;rfl
  ·rw[if_neg oX]
   have l1:f.natAbs.log2<1920:=by
    have:=gN (n:=f.natAbs) (Nat.lt_trans hf (by decide))
    rwa [Int.natAbs_natCast] at this
   refine S.k6 (ρ':=[some (.int f)]) (S.seq ((S.cO (E.cmp rfl rfl rfl) (decide_eq_false h2)).trans (S.one (S.skip (E.cmp rfl rfl (b5 (decide_eq_false oX)))))) (S.fu ?_))
   have g:=qO (D:=ae defs n) (J:=[some (.int f)]) (e:=.loc 0) (k:=.plain) (r:=.nil) rfl (e8 l1 rfl) (G9 hf) rfl
   have:=qO (e:=.const (.str [117,110,107,110,111,119,110,32,97,100,100,114,101,115,115,32,102,97,109,105,108,121,32])) (k:=.plain) rfl rfl (by decide) g
   exact xN (E.one (f7 this rfl)) rfl
end
noncomputable abbrev J8:List Nat:=[116,111,108,100]
noncomputable abbrev Og:List Nat:=[114,97,105,115,101,100]
noncomputable def Zc:dC->List Nat
 | .syntax=>[115,121,110,116,97,120]
 | .value=>[118,97,108,117,101]
 | .bX=>[102,97,109,105,108,121]
noncomputable def aD:R V->V
 | .ok v=>.tuple [.str J8,v]
 | .exc x=>.tuple [.str Og,.str (Zc x)]
 | .stuck=>.none
theorem kE {J:Ρ}{n:Nat}{f:Fn}{as:List V}{r:R V} (hs:r≠.stuck) (h:ae defs n f as=r) (e1:∀ D,(ak D ix J).value=(ak (fun O O=>D f as) ix J).value)
  (e2:∀ v,(ak (fun O O=>.ok v) ix J).value=.ok (aD (.ok v))) (e3:∀ x,(ak (fun O O=>.exc x) ix J).value=.ok (aD (.exc x))):(ak (ae defs n) ix J).value=.ok (aD r):=by
 rw[e1,h]
 cases r with
 | ok v=>exact e2 v
 | exc x=>exact e3 x
 | stuck=>exact absurd rfl hs
theorem Qf {n:Nat}{g:V}{f:Int}{r:R V} (hs:r≠.stuck) (h:ae defs n .bN [g]=r):ae defs (n+1) .bJ [.int 0,g,.int f]=.ok (aD r):=
 kE (J:=[some (.int 0),some g,some (.int f),none]) hs h (fun D=>by kernel_rfl) (fun v=>by kernel_rfl) (fun x=>by cases x<;>kernel_rfl)
theorem Uc {n:Nat}{g:V}{f:Int}{r:R V} (hs:r≠.stuck) (h:ae defs n .bN [g,.bool true]=r):ae defs (n+1) .bJ [.int 1,g,.int f]=.ok (aD r):=
 kE (J:=[some (.int 1),some g,some (.int f),none]) hs h (fun D=>by kernel_rfl) (fun v=>by kernel_rfl) (fun x=>by cases x<;>kernel_rfl)
theorem Ud {n:Nat}{t:List Nat}{f:Int}{r:R V} (ha:ascii t=true) (hs:r≠.stuck) (h:ae defs n .bN [.bytes t]=r):ae defs (n+1) .bJ [.int 2,.str t,.int f]=.ok (aD r):=by
 have e:ao (ae defs n) (.call .bN (.cons (.aH .encode (.loc 1) .nil) .nil)) [some (.int 2),some (.str t),some (.int f),none]=r:=E.call (vs:=[.bytes t]) (E.one (E.aH rfl rfl rfl (Gk ha rfl))) h
 have b:∀ {A B C aaP:aB},ak (ae defs n) (.cons (.ite (.cmp .eq (.loc 0) (.const (.int 0))) A (.cons (.ite (.cmp .eq (.loc 0) (.const (.int 1))) B (.cons (.ite (.cmp .eq (.loc 0) (.const (.int 2))) C aaP) .nil)) .nil)) .nil) [some (.int 2),some (.str t),some (.int f),none]=ak (ae defs n) C [some (.int 2),some (.str t),some (.int f),none]:=
  S.last.trans ((S.cO (b:=false) rfl rfl).trans (S.last.trans ((S.cO (b:=false) rfl rfl).trans (S.last.trans (S.aF (b:=true) rfl rfl)))))
 show (ak (ae defs n) ix [some (.int 2),some (.str t),some (.int f),none]).value=_
 cases r with
 | ok v=>exact S.val (S.seq (S.Jk (b.trans (S.one (S.assign e)))) (S.end (S.ret rfl)))
 | exc x=>exact S.val (S.end (S.C5 (b.trans (S.fu (S.C3 e))) (by cases x<;>rfl)))
 | stuck=>exact absurd rfl hs
theorem Ue {n:Nat}{g:V}{f:Int}{r:R V} (hs:r≠.stuck) (h:ae defs n .uS [.int f,g]=r):ae defs (n+1) .bJ [.int 3,g,.int f]=.ok (aD r):=
 kE (J:=[some (.int 3),some g,some (.int f),none]) hs h (fun D=>by kernel_rfl) (fun v=>by kernel_rfl) (fun x=>by cases x<;>kernel_rfl)
theorem Ug {n:Nat}{g:V}{f:Int}{r:R V} (hs:r≠.stuck) (h:ae defs n .oN [g]=r):ae defs (n+1) .bJ [.int 4,g,.int f]=.ok (aD r):=
 kE (J:=[some (.int 4),some g,some (.int f),none]) hs h (fun D=>by kernel_rfl) (fun v=>by kernel_rfl) (fun x=>by cases x<;>kernel_rfl)
theorem Uh {n:Nat}{g:V}{f:Int}{r:R V} (hs:r≠.stuck) (h:ae defs n .i9 [g]=r):ae defs (n+1) .bJ [.int 5,g,.int f]=.ok (aD r):=
 kE (J:=[some (.int 5),some g,some (.int f),none]) hs h (fun D=>by kernel_rfl) (fun v=>by kernel_rfl) (fun x=>by cases x<;>kernel_rfl)
theorem Ui {n:Nat}{g:V}{f:Int}{r:R V} (hs:r≠.stuck) (h:ae defs n .multi [g]=r):ae defs (n+1) .bJ [.int 6,g,.int f]=.ok (aD r):=
 kE (J:=[some (.int 6),some g,some (.int f),none]) hs h (fun D=>by kernel_rfl) (fun v=>by kernel_rfl) (fun x=>by cases x<;>kernel_rfl)
theorem Qg {n:Nat}{g:V}{f:Int}{r:R V} (hs:r≠.stuck) (h:ae defs n .eY [g]=r):ae defs (n+1) .bJ [.int 7,g,.int f]=.ok (aD r):=
 kE (J:=[some (.int 7),some g,some (.int f),none]) hs h (fun D=>by kernel_rfl) (fun v=>by kernel_rfl) (fun x=>by cases x<;>kernel_rfl)
theorem Qh {n:Nat}{g:V}{f:Int}{r:R V} (hs:r≠.stuck) (h:ae defs n .fM [g]=r):ae defs (n+1) .bJ [.int 8,g,.int f]=.ok (aD r):=
 kE (J:=[some (.int 8),some g,some (.int f),none]) hs h (fun D=>by kernel_rfl) (fun v=>by kernel_rfl) (fun x=>by cases x<;>kernel_rfl)
theorem Uj {n:Nat}{g:V}{f:Int}{r:R V} (hs:r≠.stuck) (h:ae defs n .uT [.int f,g]=r):ae defs (n+1) .bJ [.int 9,g,.int f]=.ok (aD r):=
 kE (J:=[some (.int 9),some g,some (.int f),none]) hs h (fun D=>by kernel_rfl) (fun v=>by kernel_rfl) (fun x=>by cases x<;>kernel_rfl)
theorem Rv {n:Nat}{g:V}{f:Int}{r:R V} (hs:r≠.stuck) (h:ae defs n .oO [.int f]=r):ae defs (n+1) .bJ [.int 10,g,.int f]=.ok (aD r):=
 kE (J:=[some (.int 10),some g,some (.int f),none]) hs h (fun D=>by kernel_rfl) (fun v=>by kernel_rfl) (fun x=>by cases x<;>kernel_rfl)
def Told (r:R V):Prop:=(∃ v,r=.ok v/\tG v v=.ok true)∨∃ x,r=.exc x
theorem Told.ns {r:R V} (h:Told r):r≠.stuck:=by
 rcases h with ⟨v,rfl,_⟩ | ⟨x,rfl⟩<;>intro q<;>contradiction
theorem Told.eq {r:R V} (h:Told r):V.eq (aD r) (aD r)=.ok true:=by
 rcases h with ⟨v,rfl,h⟩ | ⟨x,rfl⟩
 ·show V.eq (.tuple [.str J8,v]) (.tuple [.str J8,v])=_
  rw[Nz,if_pos rfl,lV,P2,R.bP,lV,h,R.bP]
  rfl
 ·cases x<;>rfl
theorem Told.bytes (l:List Nat):Told (.ok (.bytes l)):=.inl ⟨_,rfl,by rw[Ny,decide_eq_true rfl]⟩
theorem Told.str (l:List Nat):Told (.ok (.str l)):=.inl ⟨_,rfl,by rw[P2,decide_eq_true rfl]⟩
theorem Told.int (i:Int):Told (.ok (.int i)):=.inl ⟨_,rfl,by rw[P1,decide_eq_true rfl]⟩
theorem Told.bool (b:Bool):Told (.ok (.bool b)):=.inl ⟨_,rfl,by rw[Rc,decide_eq_true rfl]⟩
theorem Told.exc (x:dC):Told (.exc x):=.inr ⟨x,rfl⟩
theorem t6 (t:List Nat):Told (r6 t):=by unfold r6 jm;split;exact .bytes _;exact .exc _
theorem ts (t:List Nat):Told (rs t):=by unfold rs jm;split;exact .bytes _;exact .exc _
theorem t4 (t:List Nat):Told (r4 t):=by unfold r4 k8;split;exact .exc _;exact .bytes _
theorem X4 (t:List Nat):Told (Qc t):=by
 unfold Qc;split
 ·split;exact .int _;exact .exc _
 ·exact .int _
theorem X5 (t:List Nat):Told (Qd t):=by
 unfold Qd;split
 ·split<;>exact .bool _
 ·exact .bool _
theorem X6 (t:List Nat):Told (Qe t):=by
 unfold Qe;split
 ·split;exact .bool _;exact .exc _
 ·exact .bool _
theorem V4 (t:List Nat):Told (dq t):=by
 unfold dq;split
 ·exact .str _
 ·split;exact .exc _;exact .str _
noncomputable def ju (f:Int) (a b:R V):R V:=if f=2 then a else if f=10 then b else .exc .bX
theorem Ha {f:Int}{a b:R V} (ha:Told a) (hb:Told b):Told (ju f a b):=by
 unfold ju;split
 ·exact ha
 ·split;exact hb;exact .exc _
theorem vY {n:Nat} (f:Int) (a b:R V):ae defs (n+1) .ib [.int f,aD a,aD b]=.ok (aD (ju f a b)):=by
 show (ak (ae defs n) xB [some (.int f),some (aD a),some (aD b)]).value=_
 unfold ju
 by_cases h2:f=2
 ·rw[if_pos h2];exact S.val (S.end ((S.aF (E.cmp rfl rfl rfl) (decide_eq_true h2)).trans (S.end (S.ret rfl))))
 ·rw[if_neg h2]
  by_cases oX:f=10
  ·rw[if_pos oX];exact S.val (S.seq (S.skip (E.cmp rfl rfl (b5 (decide_eq_false h2)))) (S.end ((S.aF (E.cmp rfl rfl rfl) (decide_eq_true oX)).trans (S.end (S.ret rfl)))))
  ·rw[if_neg oX];exact S.val (S.seq (S.skip (E.cmp rfl rfl (b5 (decide_eq_false h2)))) (S.seq (S.skip (E.cmp rfl rfl (b5 (decide_eq_false oX)))) (S.end (S.ret rfl))))
noncomputable def rJ (t:List Nat):V->Bool
 | .int i=>decide (t[i.toNat]?=some 37)
 | _=>false
theorem vZ:∀ (s pre:List Nat),((List.range' pre.length s.length).map vi).filter (rJ (pre++s))=vl (cQ pre.length s):=by
 intro z0
 induction z0 with
 | nil=>
  exact fun pre=>rfl
 | cons x r ih=>
  intro pre
  have ih:=ih (pre++[x])
  rw[List.length_append,List.length_singleton,List.append_assoc,List.singleton_append] at ih
  have e:rJ (pre++x::r) (vi pre.length)=decide (x=37):=by
   unfold rJ
   dsimp only
   rw[Int.toNat_natCast,List.getElem?_append_right (Nat.le_refl _),Nat.sub_self]
   exact decide_eq_decide.mpr ⟨Option.some.inj,congrArg some⟩
  rw[List.length_cons,List.range'_succ,List.map_cons,List.filter_cons,jY,e,ih]
  by_cases h:x=37
  ·rw[if_pos h,if_pos (decide_eq_true h)];rfl
  ·rw[if_neg h,if_neg (by rw[decide_eq_false h];exact Bool.false_ne_true)]
theorem yi {t:List Nat} (T:Txt t) (a:Nat):Txt (t.take a):=⟨fun c hc=>T.asc c (List.mem_of_mem_take hc),fun h=>T.nl (List.mem_of_mem_take h),by rw[List.length_take];have:=T.len;lia⟩
theorem yj {t u:List Nat} (T:Txt t) (h:dq t=.ok (.str u)):Txt u/\dq u=dq t:=by
 unfold dq at h
 cases hr:bB t with
 | some g=>
  rw[hr] at h
  cases h
  have G:=rI (iD hr)
  refine⟨uz G,?_⟩
  unfold dq
  rw[hr,iE G]
 | none=>
  rw[hr] at h
  dsimp only at h
  split at h
  ·contradiction
  ·cases h;exact⟨T,rfl⟩
noncomputable def Qi (t:List Nat) (f:Int) (x2 x3 x4 x5:Option V) (a b c d e g h:V):Ρ:=[some (.str t),some (.int f),x2,x3,x4,x5,some a,some b,some c,some d,some e,some g,some h,none]
theorem cA {D:Fn->List V->R V}{J:Ρ}{a b:PE}{r:R V} (T:Told r) (ha:ao D a J=.ok (aD r)) (hb:ao D b J=.ok (aD r)):ao D (.cmp .ne a b) J=.ok (.bool false):=E.cmp ha hb (by rw[Wq,T.eq];rfl)
theorem yk {n:Nat}{t:List Nat}{f:Int} (T:Txt t) {x2 x3 x4 x5:Option V} :
  ak (ae defs (n+5)) qJ (Qi t f x2 x3 x4 x5 (aD (r4 t)) (aD (r6 t)) (aD (rs t)) (aD (Qc t)) (aD (Qd t)) (aD (Qe t)) (aD (dq t)))=.ret (.bool true):=by
 have q0:=Qf (n:=n+4) (f:=0) (t6 t).ns (e6 (n:=n+2) T)
 have q1:=Uc (n:=n+4) (f:=0) (ts t).ns (WO (n:=n+2) T)
 have q2:=Ud (n:=n+4) (f:=0) (fQ T.asc) (t6 t).ns (Zb (n:=n+2) T)
 have p:∀ f:Int,ae defs (n+4) .uS [.int f,.str t]=ju f (r4 t) (rs t):=fun f=>by
  rw[Rt]
  unfold ju
  rw[e4 (n:=n+2) T,WO (n:=n+1) T]
 have q3:∀ f:Int,ae defs (n+5) .bJ [.int 3,.str t,.int f]=.ok (aD (ju f (r4 t) (rs t))):=fun f=>Ue (Ha (t4 t) (ts t)).ns (p f)
 have q4:=Ug (n:=n+4) (f:=0) (X4 t).ns (Ob (n:=n+1) T)
 have q5:=Uh (n:=n+4) (f:=0) (X5 t).ns (J7 (n:=n+1) T)
 have q6:=Ui (n:=n+4) (f:=0) (X6 t).ns (Oc (n:=n+1) T)
 have q7:=Qg (n:=n+4) (f:=0) (V4 t).ns (mA (n:=n) T)
 refine S.seq (S.skip (C.or (cA (t6 t) (E.call rfl q0) rfl) (cA (t6 t) (E.call rfl q2) rfl))) (S.seq (S.skip (C.or (cA (ts t) (E.call rfl q1) rfl) (cA (ts t) (E.call rfl (q3 10)) rfl))) (S.seq (S.skip (cA (t4 t) (E.call rfl (q3 2)) rfl)) (S.seq (S.skip (cA (Ha (f:=f) (t4 t) (ts t)) (E.call rfl (q3 f)) (E.call rfl (vY (n:=n+4) f (r4 t) (rs t))))) (S.seq (S.skip (C.or (cA (X4 t) (E.call rfl q4) rfl) (cA (X5 t) (E.call rfl q5) rfl))) (S.seq (S.skip (C.or (cA (X6 t) (E.call rfl q6) rfl) (cA (V4 t) (E.call rfl q7) rfl))) (S.seq (S.skip ?_) (S.end (S.ret rfl))))))))
 have Zd:(∃ u,dq t=.ok (.str u))∨dq t=.exc .value:=by
  unfold dq
  split
  ·exact .inl ⟨_,rfl⟩
  ·split
   ·exact .inr rfl
   ·exact .inl ⟨_,rfl⟩
 have De:=V4 t
 rcases Zd with ⟨u,hu⟩ | hu
 ·refine aC (yj T hu) fun U hU=>?_
  have X7:=Qg (n:=n+4) (f:=0) (V4 u).ns (mA (n:=n) U)
  rw[hU,hu] at X7
  rw[hu] at De ⊢
  exact E.Jg (x:=.bool true) rfl rfl (cA De (E.call (vs:=[.int 7,.str u,.int 0]) rfl X7) rfl)
 ·rw[hu];exact E.Jh (x:=.bool false) rfl rfl
theorem Bd {n:Nat}{t:List Nat}{J:Ρ} (hl:t.length<=520) (h0:ao (ae defs n) (.loc 0) J=.ok (.str t)) (Ze:∀ x,ao (ae defs n) (.loc 0) (J.set 13 (some x))=.ok (.str t)) (Qj:∀ x,ao (ae defs n) (.loc 13) (J.set 13 (some x))=.ok x):bT (ae defs n) t9 J=.next (J.set 5 (some (.list (vl (cQ 0 t))))):=by
 have hf:((List.range' 0 t.length).map vi).filter (rJ t)=vl (cQ 0 t):=vZ t []
 have NF:t.length<=1000000:=Nat.le_trans hl (by decide)
 rw[<- hf]
 refine S.assign (E.sel (fE (k:=t.length) (E.prim (E.one h0) rfl) NF) (by rw[List.length_map,List.length_range'];exact NF) fun x hx=>?_)
 refine Exists.elim (List.mem_map.mp hx) fun k zz=>aC zz fun hk aw=>?_;clear zz;subst aw
 have S9:k<t.length:=by have:=(List.mem_range'_1.mp hk).2;rwa [Nat.zero_add] at this
 refine⟨E.cmp (x:=.str [t[k]]) (y:=.str [37]) (E.idx (Ze _) (Qj _) rfl (vJ (List.getElem?_eq_getElem S9))) rfl (b5 ?_),Qj _⟩
 unfold rJ
 dsimp only
 rw[Int.toNat_natCast,List.getElem?_eq_getElem S9]
 exact decide_eq_decide.mpr ⟨fun q=>congrArg some (List.cons.inj q).1,fun q=>congrArg (fun x=>[x]) (Option.some.inj q)⟩
theorem Hb {n:Nat}{t:List Nat} (T:Txt t) {f:Int}{x2:Option V}:bT (ae defs (n+5)) ua [some (.str t),some (.int f),x2,some (ov (bB t)),some (ov (bB t)),some (.list (vl (cQ 0 t))),none,none,none,none,none,none,none,none]=.next [some (.str t),some (.int f),x2,some (ov (bB t)),some (ov (bY t)),some (.list (vl (cQ 0 t))),none,none,none,none,none,none,none,none]:=by
 unfold bY
 match hs:cQ 0 t with
 | []=>rfl
 | [a]=>exact (S.aF rfl rfl).trans (S.one (S.assign (E.call (E.one (E.slice (l:=.none) (h:=vi a) rfl rfl rfl rfl (uh t a))) (vQ (n:=n+2) (t.take a) (yi T a).asc (yi T a).len))))
 | a::b::r=>exact S.skip (E.cmp (x:=vi (a::b::r).length) (y:=vi 1) (E.s8 rfl) rfl (b5 ((e7 _ 1).trans (decide_eq_false fun q=>by cases q))))
section
variable {n:Nat}{t:List Nat}{f:Int}{x2 x3 x4 x5:Option V}{a b c d e g h:V}
theorem ct {D:Fn->List V->R V}{J:Ρ}{i:Nat}{p:PE}{v:V} (hp:ao D p J=.ok v):bT D (.assign i (.tuple (.cons (.const (.str [116,111,108,100])) (.cons p .nil)))) J=.next (J.set i (some (aD (.ok v)))):=S.assign (E.tup (E.two rfl hp))
theorem ym (hz:aI t=[]):bT (ae defs (n+5)) qH (Qi t f x2 x3 (some (ov (bY t))) x5 a b (aD (.exc .syntax)) (aD (.exc .value)) (aD (.ok (.bool false))) (aD (.exc .value)) h)=.next (Qi t f x2 x3 (some (ov (bY t))) x5 a b (aD (rs t)) (aD (Qc t)) (aD (Qd t)) (aD (Qe t)) h):=by
 unfold rs Qc Qd Qe
 rw[if_pos hz,if_pos hz,if_pos hz]
 cases hs:bY t with
 | none=>rfl
 | some h=>
  refine aC (ur hs) fun V5 hV=>?_
  have ho:=mi (n:=n+4) h (by rw[V5];decide) hV
  cases h with
  | nil=>contradiction
  | cons x r=>exact (S.aF rfl rfl).trans (S.seq (ct (E.call (E.one rfl) ho)) (S.seq (ct rfl) (S.seq (ct rfl) (S.one (ct (v:=.bool (decide (65280<=x))) (E.cmp (op:=.ge) (x:=vi x) (y:=vi 65280) rfl rfl (b5 (Tz 65280 x))))))))
theorem Hd (hz:aI t=[]):bT (ae defs (n+5)) qI (Qi t f x2 (some (ov (bB t))) x4 x5 a (aD (.exc .syntax)) c d e g (aD (.exc .value)))=.next (Qi t f x2 (some (ov (bB t))) x4 x5 a (aD (r6 t)) c d e g (aD (dq t))):=by
 unfold r6 dq
 cases hs:bB t with
 | none=>rw[if_pos hz];rfl
 | some g=>
  refine aC (iD hs) fun V5 hV=>?_
  exact (S.aF rfl rfl).trans (S.seq (ct (E.call (E.one rfl) (mi (n:=n+4) g (by rw[V5];decide) hV))) (S.one (ct (E.call (E.one rfl) (p9 (n:=n+3) (rI ⟨V5,hV⟩))))))
theorem He (hz:aI t≠[]):bT (ae defs (n+5)) qG (Qi t f (some (.list (vl (aI t)))) x3 x4 x5 (aD (.exc .syntax)) b c (aD (.exc .value)) (aD (.ok (.bool false))) (aD (.exc .value)) (aD (.exc .value)))=.next (Qi t f (some (.list (vl (aI t)))) x3 x4 x5 (aD (r4 t)) b c (aD (Qc t)) (aD (Qd t)) (aD (Qe t)) (aD (dq t))):=by
 have F:=lr hz
 unfold r4 k8 Qc Qd Qe dq
 rw[if_neg hz,if_neg hz,if_neg hz,if_neg hz,F.read]
 dsimp only
 rw[if_neg hz]
 refine kR (dF hz) fun p q r s zz=>p4 zz fun e ha hb Wy hd=>?_
 rw[e]
 have Zf:bq .bytes [.list (vl [p,q,r,s])]=.ok (.bytes [p,q,r,s]):=qP (by
  simp only[List.forall_mem_cons]
  exact⟨ha,hb,Wy,hd,fun x hx=>by contradiction⟩)
 exact (S.aF rfl rfl).trans (S.seq (ct (E.prim (E.one rfl) Zf)) (S.seq (ct rfl) (S.seq (ct rfl) (S.seq (ct (v:=.bool (decide (p / 16=14))) (E.cmp (op:=.eq) (x:=vi (p / 16)) (y:=vi 14) (E.iR 16 (m:=p) (E.idx (x:=.list (vl [p,q,r,s])) (y:=.int 0) rfl rfl rfl rfl)) rfl (b5 (e7 (p / 16) 14)))) (S.one (ct rfl))))))
end
theorem Rw {n:Nat}{t:List Nat}{f:Int} (T:Txt t):ae defs (n+6) .ko [.str t,.int f]=.ok (.bool true):=by
 have go:∀ {z:SR},ak (ae defs (n+5)) qK (Qi t f (some (.list (vl (aI t)))) (some (ov (bB t))) (some (ov (bY t))) (some (.list (vl (cQ 0 t)))) (aD (.exc .syntax)) (aD (.exc .syntax)) (aD (.exc .syntax)) (aD (.exc .value)) (aD (.ok (.bool false))) (aD (.exc .value)) (aD (.exc .value)))=z->
   ak (ae defs (n+5)) u0 [some (.str t),some (.int f),none,none,none,none,none,none,none,none,none,none,none,none]=z:=fun h=>
  S.seq (S.assign (E.call (E.one rfl) (Jo (n:=n+4) t T.asc T.len))) (S.seq (S.assign (E.call (E.one rfl) (vQ (n:=n+2) t T.asc T.len))) (S.seq (S.assign rfl) (S.seq (Bd T.len rfl (fun O=>rfl) fun O=>rfl) (S.seq (Hb T) (S.seq (S.assign rfl) (S.seq (S.assign rfl) (S.seq (S.assign rfl) (S.seq (S.assign rfl) (S.seq (S.assign rfl) (S.seq (S.assign rfl) (S.seq (S.assign rfl) h)))))))))))
 refine S.val (p:=u0) (go ?_)
 by_cases hz:aI t=[]
 ·have n4:aD (.exc .syntax)=aD (r4 t):=by unfold r4 k8;rw[if_pos hz]
  refine S.seq (S.skip (by rw[hz];rfl)) (S.seq (ym hz) (S.seq (Hd hz) ?_))
  rw[n4];exact yk T
 ·have F:=lr hz
  have n6:aD (.exc .syntax)=aD (r6 t):=by unfold r6;rw[F.read];rfl
  have ns:aD (.exc .syntax)=aD (rs t):=by unfold rs;rw[F.scp];rfl
  refine S.seq (He hz) (S.seq (S.skip (by rw[F.scp];rfl)) (S.seq (S.skip (by rw[F.read];rfl)) ?_))
  have:=yk (n:=n) (f:=f) T (x2:=some (.list (vl (aI t)))) (x3:=some (ov (bB t))) (x4:=some (ov (bY t))) (x5:=some (.list (vl (cQ 0 t))))
  rwa [<- n6,<- ns] at this
theorem uA:∀ (g:List Nat) (k:Nat),(aK g).take (2*k)=aK (g.take k)
 | g,0=>rfl
 | [],k+1=>by rw[List.take_nil];rfl
 | x::r,k+1=>by rw[Nat.mul_succ,aK,List.take_succ_cons,List.take_succ_cons,List.take_succ_cons,aK,uA r k]
theorem yn:∀ {a b:List Nat},aK a=aK b->a=b
 | [],[],_=>rfl
 | [],_::_,h=>by contradiction
 | _::_,[],h=>by contradiction
 | x::a,y::b,h=>by
  refine aC (List.cons.inj h) fun h1 h2=>?_
  refine aC (List.cons.inj h2) fun h2 h3=>?_
  rw[yn h3,<- Nat.div_add_mod x 256,h1,h2,Nat.div_add_mod]
theorem Be (g:List Nat):([0,0,0,0,0,0,0,0,0,0,255,255]:List Nat).isPrefixOf (aK g)=decide (g.take 6=[0,0,0,0,0,65535]):=by
 rw[Bool.eq_iff_iff,decide_eq_true_eq,List.isPrefixOf_iff_prefix,List.prefix_iff_eq_take]
 show aK [0,0,0,0,0,65535]=(aK g).take (2*6)↔_
 rw[uA]
 exact⟨fun h=>(yn h).symm,fun h=>by rw[h]⟩
theorem J9 {n:Nat} (b:List Nat):ae defs (n+1) .mapped [.bytes b]=.ok (.bool (([0,0,0,0,0,0,0,0,0,0,255,255]:List Nat).isPrefixOf b)):=by kernel_rfl
theorem Rx {n:Nat}{g:List Nat} (G:nq g):ae defs (n+6) .qj [.list (vl g)]=.ok (.bool true):=by
 have q8:=Qh (n:=n+4) (f:=0) (Told.str (cR g)).ns (vX (n:=n+2) G)
 have h6:=e6 (n:=n+2) (uz G)
 have Zg:r6 (cR g)=.ok (.bytes (aK g)):=by unfold r6;rw[iE G];rfl
 rw[Zg] at h6
 have q0:=Qf (n:=n+4) (f:=0) (Told.bytes (aK g)).ns h6
 have hm:=J9 (n:=n+4) (aK g)
 rw[Be g] at hm
 have hs:aP (.list (vl g)) .none (.int 6)=.ok (.list (vl (g.take 6))):=by
  have:=fF (vl g) 6
  rw[<- List.map_take] at this
  exact this
 have WQ:ao (ae defs (n+5)) (.cmp .eq (.slice (.loc 0) (.const .none) (.const (.int 6))) (.list (.cons (.const (.int 0)) (.cons (.const (.int 0)) (.cons (.const (.int 0)) (.cons (.const (.int 0)) (.cons (.const (.int 0)) (.cons (.const (.int 65535)) .nil)))))))) [some (.list (vl g)),some (.bytes (aK g)),some (.str (cR g))]=.ok (.bool (decide (g.take 6=[0,0,0,0,0,65535]))):=
  E.cmp (E.slice (l:=.none) (h:=.int 6) rfl rfl rfl rfl hs) (y:=.list (vl [0,0,0,0,0,65535])) rfl (by rw[vI,JR];rfl)
 refine S.val (p:=CZ) (S.seq (J:=[some (.list (vl g)),none,none]) (S.assign (E.call (E.one rfl) (mi (n:=n+4) g (by rw[G.len];decide) G.lt))) (S.seq (S.assign (E.call (E.one rfl) (p9 (n:=n+3) G))) (S.seq (S.skip (cA (Told.str (cR g)) (E.call rfl q8) rfl)) (S.seq (S.skip (cA (Told.bytes (aK g)) (E.call rfl q0) rfl)) (S.end (S.ret (E.cmp (E.call (E.one rfl) hm) WQ ?_)))))))
 cases decide (g.take 6=[0,0,0,0,0,65535])<;>rfl
theorem Ka {n:Nat} (a b:Nat) (r:List Nat):ae defs (n+1) .eZ [.list (vl (a::b::r))]=.ok (.list (vl (aK [a,b]))):=by
 have h:∀ {i:Int}{v:Nat},il (.list (vl (a::b::r))) (.int i)=.ok (vi v)->ao (ae defs n) (.idx (.loc 0) (.const (.int i))) [some (.list (vl (a::b::r)))]=.ok (vi v):=fun h=>E.idx rfl (y:=.int _) rfl rfl h
 have ha:=h (i:=0) (v:=a) rfl
 have hb:=h (i:=1) (v:=b) rfl
 refine S.val (D:=ae defs n) (J:=[some (.list (vl (a::b::r)))]) (p:=qD) (S.end (S.ret (E.lst (vs:=vl (aK [a,b])) ?_)))
 exact E.more (E.iR 256 ha) (E.more (E.s7 256 ha) (E.two (E.iR 256 hb) (E.s7 256 hb)))
theorem yo {D:Fn->List V->R V}{J:Ρ}{a b:PE}{r:R V} (T:Told r) (ha:ao D a J=.ok (aD r)) (hb:ao D b J=.ok (aD r)):ao D (.cmp .eq a b) J=.ok (.bool true):=E.cmp ha hb (by rw[vI,T.eq];rfl)
section
variable {n:Nat}{x0:Option V}{f:Int}{size:Nat}{B:List Nat}{y:V}
theorem yq {a b:Nat}{r:List Nat} (hz:B.length=size) (hB:size=4->B=aK [a,b]) (hs:∀ x∈B,x<256):∃ nr,Told nr/\(∀ k,ae defs (k+1) .fi [.bytes B]=nr)/\
  bT (ae defs (n+5)) l0 [x0,some (vi size),some (.int f),some (.list (vl (a::b::r))),some (.bytes B),some (aD (.exc .syntax)),some y]=.next [x0,some (vi size),some (.int f),some (.list (vl (a::b::r))),some (.bytes B),some (aD nr),some y]:=by
 have c:ao (ae defs (n+5)) (.cmp .eq (.loc 1) (.const (.int 4))) [x0,some (vi size),some (.int f),some (.list (vl (a::b::r))),some (.bytes B),some (aD (.exc .syntax)),some y]=.ok (.bool (decide (size=4))):=E.cmp (x:=vi size) (y:=vi 4) rfl rfl (b5 (e7 size 4))
 by_cases h4:size=4
 ·rw[hB h4] at hs
  refine⟨.ok (.str (bQ (aK [a,b]))),.str _,fun k=>by rw[hB h4,p7 _ hs];rfl,(S.aF c (decide_eq_true h4)).trans (S.one (ct (E.call (E.one (E.call (E.one rfl) (Ka (n:=n+4) a b r))) (vK (n:=n+4) _ (by show (4:Nat)<=100;decide) fun x hx=>Nat.lt_trans (hs x hx) (by decide)))))⟩
 ·exact⟨.exc .syntax,.exc _,fun k=>by rw[p7 _ hs,if_neg (by rw[hz];exact h4)],S.skip (c.trans (b5 (decide_eq_false h4)))⟩
theorem Hf {u:List Nat} (U:nq u) (hz:B.length=size) (hB:size=16->B=aK u):∃ wr,Told wr/\(∀ k,ae defs (k+2) .fM [.bytes B]=wr)/\
  bT (ae defs (n+5)) md [x0,some (vi size),some (.int f),some (.list (vl u)),some (.bytes B),some y,some (aD (.exc .value))]=.next [x0,some (vi size),some (.int f),some (.list (vl u)),some (.bytes B),some y,some (aD wr)]:=by
 have c:ao (ae defs (n+5)) (.cmp .eq (.loc 1) (.const (.int 16))) [x0,some (vi size),some (.int f),some (.list (vl u)),some (.bytes B),some y,some (aD (.exc .value))]=.ok (.bool (decide (size=16))):=E.cmp (x:=vi size) (y:=vi 16) rfl rfl (b5 (e7 size 16))
 by_cases h:size=16
 ·exact⟨.ok (.str (cR u)),.str _,fun k=>by rw[hB h];exact vX U,(S.aF c (decide_eq_true h)).trans (S.one (ct (E.call (E.one rfl) (p9 (n:=n+3) U))))⟩
 ·exact⟨.exc .value,.exc _,fun k=>yh B (by rw[hz];exact h),S.skip (c.trans (b5 (decide_eq_false h)))⟩
end
theorem Hg {n:Nat}{g:List Nat} (G:nq g) {size:Nat} (hz:size<=20) (f:Int):ae defs (n+6) .fN [.list (vl g),.int (size:Int),.int f]=.ok (.bool true):=by
 obtain⟨a,b,r,hu,U⟩:∃ a b r,g.drop 4++g.take 4=a::b::r/\nq (a::b::r):=by
  have U:nq (g.drop 4++g.take 4):=⟨by rw[List.length_append,List.length_drop,List.length_take,G.len];rfl,fun x hx=>(List.mem_append.mp hx).elim (fun h=>G.lt x (List.mem_of_mem_drop h)) fun h=>G.lt x (List.mem_of_mem_take h)⟩
  generalize g.drop 4++g.take 4=u at U
  match u,U with
  | [],U=>cases U.len
  | [_],U=>cases U.len
  | a::b::r,U=>exact⟨a,b,r,rfl,U⟩
 have s1:aP (.list (vl g)) (.int 4) .none=.ok (.list (vl (g.drop 4))):=by
  have:=fG (vl g) 4
  rw[<- List.map_drop] at this
  exact this
 have s2:aP (.list (vl g)) .none (.int 4)=.ok (.list (vl (g.take 4))):=by
  have:=fF (vl g) 4
  rw[<- List.map_take] at this
  exact this
 have V6:=U.len
 have X8:∀ x∈(a::b::r)++(a::b::r),x<65536:=fun x hx=>(List.mem_append.mp hx).elim (U.lt x) (U.lt x)
 have ho:=mi (n:=n+4) ((a::b::r)++(a::b::r)) (by rw[List.length_append,V6];decide) X8
 obtain⟨B,hB⟩:∃ B,B=(aK ((a::b::r)++(a::b::r))).take size:=⟨_,rfl⟩
 have X9:B.length=size:=by rw[hB,List.length_take,gd,List.length_append,V6];exact Nat.min_eq_left (Nat.le_trans hz (by decide))
 have Zh:∀ x∈B,x<256:=fun x hx=>cX _ X8 x (List.mem_of_mem_take (hB ▸ hx))
 refine Exists.elim (yq (n:=n) (x0:=some (.list (vl g))) (f:=f) (y:=aD (.exc .value)) (r:=r) X9 (fun h=>by rw[hB,h];rfl) Zh) fun nr zz=>b6 zz fun Tn Zi h4=>?_
 refine Exists.elim (Hf (n:=n) (x0:=some (.list (vl g))) (f:=f) (y:=aD nr) U X9 (fun h=>by rw[hB,oW,h,List.take_left'];rw[gd,V6])) fun wr zz=>b6 zz fun Tw Yb h5=>?_
 have q8:=Qh (n:=n+4) (f:=0) Tw.ns (Yb (n+2))
 have p:∀ f:Int,ae defs (n+4) .uT [.int f,.bytes B]=ju f nr wr:=fun f=>by
  rw[Ru]
  unfold ju
  rw[Zi (n+2),Yb (n+1)]
 have q9:∀ f:Int,ae defs (n+5) .bJ [.int 9,.bytes B,.int f]=.ok (aD (ju f nr wr)):=fun f=>Uj (Ha Tn Tw).ns (p f)
 have e0:bT (ae defs (n+5)) lY [some (.list (vl g)),some (vi size),some (.int f),none,none,none,none]=.next [some (.list (vl g)),some (vi size),some (.int f),some (.list (vl (a::b::r))),none,none,none]:=
  S.assign (E.bin (E.slice (l:=.int 4) (h:=.none) rfl rfl rfl rfl s1) (E.slice (l:=.none) (h:=.int 4) rfl rfl rfl rfl s2) (by rw[vO (by rw[List.length_drop,List.length_take,G.len];decide),hu]))
 have e1:bT (ae defs (n+5)) lZ [some (.list (vl g)),some (vi size),some (.int f),some (.list (vl (a::b::r))),none,none,none]=.next [some (.list (vl g)),some (vi size),some (.int f),some (.list (vl (a::b::r))),some (.bytes B),none,none]:=by
  rw[hB]
  exact S.assign (E.slice (l:=.none) (h:=vi size) (E.call (E.one (E.bin rfl rfl (vO (by rw[V6];decide)))) ho) rfl rfl rfl (ui _ size))
 exact S.val (p:=qL) (S.seq e0 (S.seq e1 (S.seq (S.assign rfl) (S.seq (S.assign rfl) (S.seq h4 (S.seq h5 (S.seq (S.skip (C.or (cA Tw (E.call rfl q8) rfl) (cA Tw (E.call rfl (q9 10)) rfl))) (S.seq (S.skip (cA Tn (E.call rfl (q9 2)) rfl)) (S.end (S.ret (yo (Ha (f:=f) Tn Tw) (E.call rfl (q9 f)) (E.call rfl (vY (n:=n+4) f nr wr)))))))))))))
theorem Uk {n:Nat}{f:Int} (hf:f.natAbs<1000):ae defs (n+6) .zx [.int f]=.ok (.bool true):=by
 have hd:ae defs (n+5) .iO [.list [.int 0,.int 0,.int 0,.int 0]]=.ok (.str [48,46,48,46,48,46,48]):=vK (n:=n+4) [0,0,0,0] (by decide) (by decide)
 have Yc:=p9 (n:=n+3) (g:=[0,0,0,0,0,0,0,0]) ⟨rfl,by decide⟩
 have Zj:cR [0,0,0,0,0,0,0,0]=[58,58]:=by decide +kernel
 rw[Zj] at Yc
 have Ta:=Told.str [48,46,48,46,48,46,48]
 have Tb:=Told.str [58,58]
 have q:∀ f:Int,f.natAbs<1000->ae defs (n+5) .bJ [.int 10,.none,.int f]=.ok (aD (ju f (.ok (.str [48,46,48,46,48,46,48])) (.ok (.str [58,58])))):=fun f hf=>Rv (Ha Ta Tb).ns (Oe hf)
 exact S.val (p:=I0) (S.seq (J:=[some (.int f),none,none]) (ct (E.call (vs:=[.list [.int 0,.int 0,.int 0,.int 0]]) rfl hd)) (S.seq (ct (E.call (vs:=[.list (vl [0,0,0,0,0,0,0,0])]) rfl Yc)) (S.seq (S.skip (C.or (cA Ta (E.call rfl (q 2 (by decide))) rfl) (cA Tb (E.call rfl (q 10 (by decide))) rfl))) (S.end (S.ret (yo (Ha (f:=f) Ta Tb) (E.call rfl (q f hf)) (E.call rfl (vY (n:=n+4) f _ _))))))))
def Oh (c:Nat):Prop:=c<128/\c≠10
def GW (k:Nat) (w:List Nat):Prop:=(∀ c∈w,Oh c)/\w.length<=k
def PW (k:Nat) (W:List (List Nat)):Prop:=∀ w∈W,GW k w
theorem GW.mono {k m:Nat}{w:List Nat} (h:GW k w) (q:k<=m):GW m w:=⟨h.1,Nat.le_trans h.2 q⟩
theorem GW.app {k m:Nat}{v w:List Nat} (h:GW k v) (q:GW m w):GW (k+m) (v++w):=⟨fun c hc=>(List.mem_append.mp hc).elim (h.1 c) (q.1 c),by rw[List.length_append];have:=h.2;have:=q.2;lia⟩
theorem PW.set {k:Nat}{W:List (List Nat)} (h:PW k W) {w:List Nat} (q:GW k w) (i:Nat):PW k (W.set i w):=fun x hx=>by
 rcases List.mem_or_eq_of_mem_set hx with z | z
 ·exact h x z
 ·rw[z];exact q
theorem PW.take {k:Nat}{W:List (List Nat)} (h:PW k W) (i:Nat):PW k (W.take i):=fun x hx=>h x (List.mem_of_mem_take hx)
theorem PW.app {k:Nat}{V W:List (List Nat)} (h:PW k V) (q:PW k W):PW k (V++W):=fun x hx=>(List.mem_append.mp hx).elim (h x) (q x)
theorem PW.one {k:Nat}{w:List Nat} (h:GW k w):PW k [w]:=fun x hx=>by rw[List.mem_singleton.mp hx];exact h
theorem PW.join {k c:Nat}{W:List (List Nat)} (h:PW k W) (hc:Oh c):GW (k*W.length+W.length) (bj [c] W):=by
 refine⟨fun x hx=>?_,?_⟩
 ·rcases jt hx with z | ⟨w,hw,z⟩
  ·rw[List.mem_singleton.mp z];exact hc
  ·exact (h w hw).1 x z
 ·have h1:=d9 (k:=k) fun w hw=>(h w hw).2
  have h2:∀ l:List (List Nat),(bj [c] l).length<=bx l+l.length:=by
   intro l
   induction l with
   | nil=>exact Nat.le_refl _
   | cons x r ih=>
    cases r with
    | nil=>simp[dg,ck,aV,cM,aY]
    | cons y r'=>
     rw[aV]
     simp only[List.length_append,aY,List.length_cons,List.length_nil] at ih ⊢;omega
  have h3:=h2 W
  lia
theorem PW.guard {k:Nat}{W:List (List Nat)} (h:PW k W) (hk:k<=100) (hl:W.length<=100) (s:List Nat) (hs:s.length<=100):bx W+s.length*W.length<=lim:=by
 have h1:=d9 (k:=k) fun w hw=>(h w hw).2
 have h2:k*W.length<=100*100:=Nat.mul_le_mul hk hl
 have h3:s.length*W.length<=100*100:=Nat.mul_le_mul hs hl
 show _<=1000000
 lia
theorem sum_set:∀ (W:List (List Nat)) (i:Nat) (w:List Nat),bx (W.set i w)<=bx W+w.length
 | [],i,w=>by simp[cM,aY]
 | x::r,0,w=>by rw[List.set_cons_zero,aY,aY];lia
 | x::r,i+1,w=>by
  have:=sum_set r i w
  rw[List.set_cons_succ,aY,aY];lia
theorem v7 {v:Nat} (h:v<512):GW 3 (bI (v:Int)):=by
 have:∀ v:Fin 512,(∀ c∈bI ((v.1:Nat):Int),c<128/\c≠10)/\(bI ((v.1:Nat):Int)).length<=3:=by decide +kernel
 exact this ⟨v,h⟩
theorem uB {c:Nat}:∀ l:List (List Nat),(bj [c] l).length<=bx l+l.length
 | []=>Nat.le_refl _
 | [x]=>by simp[dg,ck,aV,cM,aY]
 | x::y::r=>by
  have:=uB (c:=c) (y::r)
  rw[aV]
  simp only[List.length_append,aY,List.length_cons,List.length_nil] at this ⊢;omega
theorem v8 {c:Nat} (h:Oh c):GW 1 [c]:=⟨fun x hx=>by rw[List.mem_singleton.mp hx];exact h,Nat.le_refl _⟩
theorem Oi:∀ {l:List (List Nat)}{x:List Nat},bx (l++[x])=bx l+x.length:=by
 intro z0
 induction z0 with
 | nil=>exact fun {x}=>(Nat.add_comm _ _)
 | cons a l ih=>exact fun {x}=>by rw[List.cons_append,aY,aY,ih,Nat.add_assoc]
def Out (J:Ρ) (a:Nat) (Q:List (List Nat)->Prop) (z:SR):Prop:=∃ W,z=.next (J.set a (some (.list (W.map V.str))))/\Q W
theorem yr {n:Nat}{four:List Nat} (h4:four.length=4) (hf:∀ x∈four,x<256) (m:Nat):∃ t,ae defs (n+1) .gb [vi m,.list (vl four)]=.ok (.str t)/\GW 20 t:=by
 generalize hW:(four.map fun n:Nat=>bI n)=W
 have w6:W.length=4:=by rw[<- hW,List.length_map,h4]
 have Oj:PW 3 W:=fun w hw=>by
  rw[<- hW] at hw
  obtain⟨x,hx,rfl⟩:=List.mem_map.mp hw
  exact v7 (Nat.lt_trans (hf x hx) (by decide))
 have WR:bx W<=12:=by have:=d9 (k:=3) fun w hw=>(Oj w hw).2;rwa [w6] at this
 have e0:bT (ae defs n) oR [some (vi m),some (.list (vl four)),none,none,none,none]=.next [some (vi m),some (.list (vl four)),some (.list (W.map V.str)),none,none,none]:=by
  refine (S.own (E.map (f:=fun x=>match x with | .int i=>.str (bI i) | _=>.none) (xs:=vl four) (by kernel_rfl) (by rw[List.length_map,h4];decide) fun x hx=>?_)).trans ?_
  ·obtain⟨y,hy,rfl⟩:=List.mem_map.mp hx
   exact E.prim (E.one rfl) (e8 (gN (Nat.lt_trans (hf y hy) (by decide))) rfl)
  ·rw[<- hW,List.map_map,List.map_map];rfl
 obtain⟨k,hk⟩:∃ k,k=m % 12:=⟨_,rfl⟩
 obtain⟨i,Yd,hi⟩:∃ i,i<4/\i=m / 12 % 4:=⟨_,Nat.mod_lt _ (by decide),rfl⟩
 have e1:bT (ae defs n) oS [some (vi m),some (.list (vl four)),some (.list (W.map V.str)),none,none,none]=.next [some (vi m),some (.list (vl four)),some (.list (W.map V.str)),some (vi k),none,none]:=
  S.assign (v:=vi k) (E.bin rfl rfl (congrArg (fun x=>R.ok (V.int x)) ((Nx m).trans (by rw[hk]))))
 have e2:bT (ae defs n) oU [some (vi m),some (.list (vl four)),some (.list (W.map V.str)),some (vi k),none,none]=.next [some (vi m),some (.list (vl four)),some (.list (W.map V.str)),some (vi k),some (vi i),none]:=
  S.assign (v:=vi i) (E.bin (E.bin rfl rfl (congrArg (fun x=>R.ok (V.int x)) (Nw m))) rfl (congrArg (fun x=>R.ok (V.int x)) ((Rb _).trans (by rw[hi]))))
 have Ul:i<W.length:=by rw[w6];exact Yd
 obtain⟨w,hw⟩:∃ w,W[i]?=some w:=⟨_,List.getElem?_eq_getElem Ul⟩
 have V7:=Oj _ (List.mem_of_getElem? hw)
 obtain⟨x,hx⟩:∃ x,four[i]?=some x:=⟨_,List.getElem?_eq_getElem (by rw[h4];exact Yd)⟩
 have Qk:=hf x (List.mem_of_getElem? hx)
 generalize Ir:([some (vi m),some (.list (vl four)),some (.list (W.map V.str)),some (vi k),some (vi i),none]:Ρ)=J
 have l2:ao (ae defs n) (.loc 2) J=.ok (.list (W.map V.str)):=by rw[<- Ir];rfl
 have l3:ao (ae defs n) (.loc 3) J=.ok (vi k):=by rw[<- Ir];rfl
 have l4:ao (ae defs n) (.loc 4) J=.ok (vi i):=by rw[<- Ir];rfl
 have at_:ao (ae defs n) (.idx (.loc 2) (.loc 4)) J=.ok (.str w):=E.idx l2 l4 rfl (et (by rw[List.getElem?_map,hw];rfl))
 have put:∀ {e:PE}{v:List Nat},ao (ae defs n) e J=.ok (.str v)->GW 4 v->Out J 2 (fun W'=>PW 4 W'/\bx W'+W'.length<=20) (ak (ae defs n) (.cons (.setItem 2 (.loc 4) e) .nil) J):=fun he hv=>
  ⟨_,S.Ji he l2 l4 Ul,PW.set (fun x hx=>(Oj x hx).mono (by decide)) hv i,by
   rw[List.length_set,w6]
   exact Nat.add_le_add (Nat.le_trans (sum_set W i _) (Nat.add_le_add WR hv.2)) (Nat.le_refl 4)⟩
 have Ye:∀ {a b:Nat},a<=3->b<=3->a+b<=1000000:=fun h1 h2=>Nat.le_trans (Nat.add_le_add h1 h2) (by decide)
 have pre:∀ c,Oh c->Out J 2 (fun W'=>PW 4 W'/\bx W'+W'.length<=20) (ak (ae defs n) (.cons (.setItem 2 (.loc 4) (.bin .add (.const (.str [c])) (.idx (.loc 2) (.loc 4)))) .nil) J):=fun c hc=>
  put (E.bin rfl at_ (adds (Ye (show 1<=3 by decide) V7.2))) ((v8 hc).app V7)
 obtain⟨W',e3,hp,hs⟩:Out J 2 (fun W'=>PW 4 W'/\bx W'+W'.length<=20) (bT (ae defs n) oV J):=by
  refine S.bZ l3 (pre 48 ⟨by decide,by decide⟩) (S.elif (S.bZ l3 ?_ (S.elif (S.bZ l3 ?_ (S.elif (S.bZ l3 ?_ (S.elif (S.bZ l3 ?_ (S.elif (S.bZ l3 (pre 32 ⟨by decide,by decide⟩) (S.elif (S.bZ l3 ?_ (S.elif (S.bZ l3 (pre 43 ⟨by decide,by decide⟩) ?_))))))))))))))
  ·exact put (E.prim (E.one (E.bin (E.idx (by rw[<- Ir];rfl) l4 rfl (et (xs:=vl four) (v:=vi x) (by rw[List.getElem?_map,hx];rfl))) rfl rfl)) (e8 (gN (n:=x+256) (Nat.lt_of_lt_of_le (Nat.add_lt_add_right Qk 256) (by decide))) rfl)) ((v7 (v:=x+256) (Nat.add_lt_add_right Qk 256)).mono (by decide))
  ·exact put (v:=[]) rfl ⟨fun c hc=>(by contradiction),Nat.zero_le _⟩
  ·refine⟨W++[[55]],?_,PW.app (fun x hx=>(Oj x hx).mono (by decide)) (.one ((v8 ⟨by decide,by decide⟩).mono (by decide))),?_⟩
   ·rw[S.last,S.append (xs:=W.map V.str) (v:=.str [55]) (by rw[<- Ir];rfl) rfl (by rw[List.length_map,w6];decide) rfl,List.map_append];rfl
   ·rw[Oi,List.length_append,w6];exact Nat.le_trans (Nat.add_le_add (Nat.add_le_add WR (Nat.le_refl 1)) (Nat.le_refl 5)) (by decide)
  ·have Um:aP (.list (W.map V.str)) .none (.int 3)=.ok (.list ((W.take 3).map V.str)):=by
    have:=fF (W.map V.str) 3
    rw[<- List.map_take] at this
    exact this
   refine⟨W.take 3,by rw[S.last,S.own (E.slice l2 rfl rfl rfl Um)],PW.take (fun x hx=>(Oj x hx).mono (by decide)) 3,?_⟩
   have:=d9 (k:=3) (l:=W.take 3) fun w hw=>(Oj w (List.mem_of_mem_take hw)).2
   rw[List.length_take,w6] at this ⊢
   exact Nat.le_trans (Nat.add_le_add this (Nat.le_refl _)) (by decide)
  ·exact put (E.bin at_ rfl (adds (Ye V7.2 (show 1<=3 by decide)))) (V7.app (v8 ⟨by decide,by decide⟩))
  ·exact⟨W,by rw[<- Ir];rfl,fun x hx=>(Oj x hx).mono (by decide),by rw[w6];exact Nat.add_le_add (Nat.le_trans WR (by decide:12<=16)) (Nat.le_refl 4)⟩
 refine⟨bj [46] W',?_,(hp.join (c:=46) ⟨by decide,by decide⟩).1,Nat.le_trans (uB W') hs⟩
 rw[<- Ir] at e3
 refine S.val (p:=ub) (S.seq e0 (S.seq e1 (S.seq e2 (S.seq e3 (S.end (S.ret ?_))))))
 exact E.aH rfl rfl (E.one rfl) ((jh [46] W').trans (e8 (by show _+1*_<=1000000;lia) rfl))
noncomputable abbrev Df:List Nat:=[48,49,50,51,52,53,54,55,56,57,97,98,99,100,101,102,65,66,67,68,69,70,58,58,58,46,46,46,37,103,120,32,43,45,95]
theorem nZ {D:Fn->List V->R V}{N:Option V}{r:Nat}{t:List Nat}:(ao D (.and (.cmp .gt (.loc 1) (.const (.int 0))) (.cmp .lt (.prim .len (.cons (.loc 2) .nil)) (.const (.int 45)))) [N,some (vi r),some (.str t)]).bind V.truth=.ok (decide (0<r)&&decide (t.length<45)):=
 C.ok (C.and (E.cmp rfl rfl (b5 (fP 0 r))) (E.cmp (E.prim (E.one rfl) rfl) rfl (b5 (fP t.length 45))))
theorem Hh {D:Fn->List V->R V}{N:Option V}{r:Nat}{t:List Nat} (h0:0<r) (hl:t.length<45):∃ c,ak D nG [N,some (vi r),some (.str t)]=.next [N,some (vi ((r - 1) / 35)),some (.str (t++[c]))]/\Oh c:=by
 have hm:(r - 1) % 35<Df.length:=Nat.mod_lt _ (by decide)
 refine⟨Df[(r - 1) % 35],?_,(by decide:∀ c∈Df,c<128/\c≠10) _ (List.getElem_mem hm)⟩
 have e1:bT D (.assign 1 (.bin .sub (.loc 1) (.const (.int 1)))) [N,some (vi r),some (.str t)]=.next [N,some (vi (r - 1)),some (.str t)]:=S.assign (v:=vi (r - 1)) (E.bin rfl rfl (qN (Int.ofNat_sub h0).symm))
 have e2:ao D (.prim .len (.cons (.glob dU) .nil)) [N,some (vi (r - 1)),some (.str t)]=.ok (.int 35):=by kernel_rfl
 refine S.seq e1 (S.seq (S.assign (v:=.str (t++[Df[(r - 1) % 35]])) (E.bin rfl (E.idx rfl (E.bin rfl e2 (qN (mh (r - 1) 35))) rfl (vJ (List.getElem?_eq_getElem hm))) (adds (Nat.le_trans (Nat.add_le_add_right (Nat.le_of_lt hl) 1) (by decide))))) (S.one (S.assign (v:=vi ((r - 1) / 35)) (E.bin rfl (by kernel_rfl:_=R.ok (.int 35)) (qN (xI (r - 1) 35))))))
theorem Bf {D:Fn->List V->R V}{N:Option V}:∀ (k f r:Nat) (t:List Nat),t.length+k=45->GW 45 t->
  ∃ r' t',dp (fun J=>(ao D (.and (.cmp .gt (.loc 1) (.const (.int 0))) (.cmp .lt (.prim .len (.cons (.loc 2) .nil)) (.const (.int 45)))) J).bind V.truth) (ak D nG) (f+k+1) [N,some (vi r),some (.str t)]=.next [N,some r',some (.str t')]/\GW 45 t':=by
 intro z0
 induction z0 with
 | zero=>
  exact fun f r t hk ht=>⟨vi r,t,W.stop (nZ.trans (congrArg R.ok (by rw[show t.length=45 from hk];exact Bool.and_false _))),ht⟩
 | succ k ih=>
  intro f r t hk ht
  cases hc:decide (0<r)&&decide (t.length<45) with
  | false=>exact⟨vi r,t,W.stop (nZ.trans (congrArg R.ok hc)),ht⟩
  | true=>
   have h:=Bool.and_eq_true_iff.mp hc
   refine Exists.elim (Hh (D:=D) (N:=N) (of_decide_eq_true h.1) (of_decide_eq_true h.2)) fun c zz=>aC zz fun hb ok=>?_
   have hl:(t++[c]).length+k=45:=by rw[List.length_append];exact (Nat.add_right_comm _ _ _).trans hk
   refine bW (ih f ((r - 1) / 35) (t++[c]) hl ⟨(ht.app (v8 ok)).1,Nat.le_trans (Nat.le_add_right _ _) (Nat.le_of_eq hl)⟩) fun r' t' zz=>aC zz fun e Zk=>?_
   exact⟨r',t',W.turn (nZ.trans (congrArg R.ok hc)) hb e,Zk⟩
theorem Ry {n:Nat} (z:Int):∃ t,ae defs (n+1) .ql [.int z]=.ok (.str t)/\GW 45 t:=by
 refine Exists.elim (xJ z (35 ^ 46) (Nat.pow_pos (by decide))) fun r zz=>aC zz fun hr O=>?_
 refine bW (Bf (D:=ae defs n) (N:=some (.int z)) 45 99954 r [] rfl ⟨fun c hc=>(by contradiction),Nat.zero_le _⟩) fun r' t' zz=>aC zz fun e ht=>?_
 exact⟨t',S.val (p:=C0) (S.seq (J:=[some (.int z),none,none]) (S.assign (v:=vi r) (E.bin (y:=.int ((35 ^ 46:Nat):Int)) rfl (by kernel_rfl) (e8 (c:=(0:Int)<((35 ^ 46:Nat):Int)) (by decide) (qN hr)))) (S.seq (S.assign rfl) (S.seq e (S.end (S.ret rfl))))),ht⟩
noncomputable def Kb:List Nat:=[48,49,50,51,52,53,54,55,56,57,65,66,67,68,69,70]
theorem Dg:∀ c∈gy,Oh c:=(by decide:∀ c∈gy,c<128/\c≠10)
theorem Kc:∀ c∈Kb,Oh c:=(by decide:∀ c∈Kb,c<128/\c≠10)
theorem Dh {sg:List Nat} (V8:16<=sg.length) (Iu:∀ c∈sg,Oh c) (n w k:Nat):GW k (dy sg w k n []):=⟨fun c hc=>(ud V8 k n [] c hc).elim (fun h=>by contradiction) fun h=>Iu c (List.mem_of_mem_take h),by have:=Gn (sg:=sg) (w:=w) k n [];rwa [List.length_nil,Nat.zero_add] at this⟩
theorem Ol {α β:Type} (f:α->β) (l:List α) (a b:Nat):cut (l.map f) a b=(cut l a b).map f:=by unfold cut;rw[List.map_take,List.map_drop]
theorem Di {α:Type}{l:List α}{a b:Nat}{x:α} (h:x∈cut l a b):x∈l:=List.mem_of_mem_drop (List.mem_of_mem_take h)
theorem Kd {α:Type} (l:List α) (a b:Nat):(cut l a b).length<=l.length:=by
 unfold cut;rw[List.length_take,List.length_drop];exact Nat.le_trans (Nat.min_le_right _ _) (Nat.sub_le _ _)
theorem Om {t:List Nat}{u v:V}{x y:Nat} (hx:bound t.length 0 u=some x) (hy:bound t.length t.length v=some y):aP (.str t) u v=.ok (.str (cut t x y)):=by
 show (match bound t.length 0 u,bound t.length t.length v with | some a,some b=>R.ok (V.str (cut t a b)) | _,_=>.stuck)=_
 rw[hx,hy]
theorem Oo {t:List V}{u v:V}{x y:Nat} (hx:bound t.length 0 u=some x) (hy:bound t.length t.length v=some y):aP (.list t) u v=.ok (.list (cut t x y)):=by
 show (match bound t.length 0 u,bound t.length t.length v with | some a,some b=>R.ok (V.list (cut t a b)) | _,_=>.stuck)=_
 rw[hx,hy]
section
variable {D:Fn->List V->R V}{J:Ρ}
def GE (D:Fn->List V->R V) (J:Ρ) (k:Nat) (e:PE):Prop:=∃ t,ao D e J=.ok (.str t)/\GW k t
def WE (D:Fn->List V->R V) (J:Ρ) (k n:Nat) (e:PE):Prop:=∃ W,ao D e J=.ok (.list (W.map V.str))/\PW k W/\W.length<=n
def BE (D:Fn->List V->R V) (J:Ρ) (e:PE):Prop:=∃ v,ao D e J=.ok v/\∀ n d,∃ a,bound n d v=some a
theorem BE.no:BE D J (.const .none):=⟨.none,rfl,fun n d=>⟨d,rfl⟩⟩
theorem BE.num {e:PE}{i:Int} (h:ao D e J=.ok (.int i)):BE D J e:=⟨_,h,fun n d=>⟨_,rfl⟩⟩
theorem GE.lit {k:Nat}{s:List Nat} (h:(s.all (fun c=>decide (c<128)&&decide (c≠10))&&decide (s.length<=k))=true):GE D J k (.const (.str s)):=by
 rw[Bool.and_eq_true,List.all_eq_true] at h
 exact⟨s,rfl,fun c hc=>by have:=h.1 c hc;rw[Bool.and_eq_true] at this;exact⟨of_decide_eq_true this.1,of_decide_eq_true this.2⟩,of_decide_eq_true h.2⟩
theorem GE.add {aaQ k m:Nat}{a b:PE} (h:GE D J aaQ a) (g:GE D J k b) (hm:aaQ+k<=m/\m<=1000000):GE D J m (.bin .add a b):=by
 refine Exists.elim h fun s zz=>aC zz fun e hs=>?_
 refine Exists.elim g fun t zz=>aC zz fun f ht=>?_
 exact⟨s++t,E.bin e f (adds (Nat.le_trans (Nat.add_le_add hs.2 ht.2) (Nat.le_trans hm.1 hm.2))),(hs.app ht).mono hm.1⟩
theorem GE.join {k n m:Nat}{e:PE} (h:WE D J k n e) (hk:k<=100/\n<=100/\k*n+n<=m):GE D J m (.aH .join (.const (.str [58])) (.cons e .nil)):=by
 refine Exists.elim h fun W zz=>b6 zz fun e p l=>?_
 have hl:=Nat.le_trans l hk.2.1
 exact⟨bj [58] W,E.aH rfl rfl (E.one e) ((jh [58] W).trans (e8 (p.guard hk.1 hl [58] (by decide)) rfl)),(p.join ⟨by decide,by decide⟩).mono (Nat.le_trans (Nat.add_le_add (Nat.mul_le_mul_left k l) l) hk.2.2)⟩
theorem GE.slice {k:Nat}{e lo hi:PE} (h:GE D J k e) (a:BE D J lo) (b:BE D J hi):GE D J k (.slice e lo hi):=by
 refine Exists.elim h fun t zz=>aC zz fun e ht=>?_
 refine Exists.elim a fun u zz=>aC zz fun ea ha=>?_
 refine Exists.elim b fun v zz=>aC zz fun eb hb=>?_
 refine Exists.elim (ha t.length 0) fun x hx=>?_
 refine Exists.elim (hb t.length t.length) fun y hy=>?_
 exact⟨cut t x y,E.slice e ea eb (Bool.or_true _) (Om hx hy),fun c hc=>ht.1 c (Di hc),Nat.le_trans (Kd _ _ _) ht.2⟩
theorem WE.slice {k n i:Nat}{lo hi:PE} (h:WE D J k n (.loc i)) (a:BE D J lo) (b:BE D J hi):WE D J k n (.slice (.loc i) lo hi):=by
 refine Exists.elim h fun t zz=>b6 zz fun e hp hl=>?_
 refine Exists.elim a fun u zz=>aC zz fun ea ha=>?_
 refine Exists.elim b fun v zz=>aC zz fun eb hb=>?_
 refine Exists.elim (ha (t.map V.str).length 0) fun x hx=>?_
 refine Exists.elim (hb (t.map V.str).length (t.map V.str).length) fun y hy=>?_
 exact⟨cut t x y,E.slice e ea eb rfl ((Oo hx hy).trans (by rw[Ol])),fun c hc=>hp c (Di hc),Nat.le_trans (Kd _ _ _) hl⟩
theorem WE.add {k n m:Nat}{a b:PE} (h:WE D J k n a) (g:WE D J k m b) (hm:n+m<=1000000):WE D J k (n+m) (.bin .add a b):=by
 refine Exists.elim h fun s zz=>b6 zz fun e p l=>?_
 refine Exists.elim g fun t zz=>b6 zz fun f q r=>?_
 refine⟨s++t,E.bin e f ?_,p.app q,by rw[List.length_append];exact Nat.add_le_add l r⟩
 rw[List.map_append]
 exact e8 (show _<=lim by rw[List.length_map,List.length_map];exact Nat.le_trans (Nat.add_le_add l r) hm) rfl
def Ke (J:Ρ) (a k:Nat) (z:SR):Prop:=∃ t,z=.next (J.set a (some (.str t)))/\GW k t
theorem Ke.of {a k:Nat}{e:PE} (h:GE D J k e):Ke J a k (ak D (.cons (.assign a e) .nil) J):=by
 refine Exists.elim h fun t zz=>aC zz fun e ht=>?_
 exact⟨t,S.last.trans (S.assign e),ht⟩
end
theorem draw {n:Nat} (xs:List Int) (p:Nat) (hp:p<33) (K:Nat) (hK:0<K/\K<1000000000):∃ m,m<K/\∀ (J:Ρ) (e:PE),ao (ae defs (n+1)) (.loc 0) J=.ok (.list (xs.map V.int))->ao (ae defs (n+1)) e J=.ok (vi p)->
  ao (ae defs (n+1)) (.bin .mod (.call .qi (.cons (.loc 0) (.cons e .nil))) (.const (.int K))) J=.ok (vi m):=by
 refine Exists.elim (P5 (n:=n) xs p hp) fun z hz=>?_
 refine Exists.elim (xJ z K hK.1) fun m zz=>aC zz fun hm hV=>?_
 exact⟨m,hV,fun J e h0 h1=>E.bin (E.call (E.two h0 h1) hz) rfl (e8 (c:=(0:Int)<(K:Int)) (Int.ofNat_lt.mpr hK.1) (qN hm))⟩
theorem Oq (a b:Nat):(if (b:Int)<(a:Int) then (b:Int) else (a:Int))=((min a b:Nat):Int):=by split<;>lia
theorem Ot (a b:Nat):(if (a:Int)<(b:Int) then (b:Int) else (a:Int))=((max a b:Nat):Int):=by split<;>lia
noncomputable def spS (X:Nat->Option V) (a b c d:Option V):Ρ:=[X 0,X 1,X 2,X 3,X 4,X 5,X 6,X 7,a,X 9,X 10,X 11,X 12,b,c,d,X 16]
theorem Bg {n:Nat}{X:Nat->Option V}{v k:Nat}{acc:List (List Nat)}{d:Option V} (hv:v<65536) (hl:acc.length<1000) :
  ∃ w s,ak (ae defs (n+1)) iy (spS X (some (vi k)) (some (.list (acc.map V.str))) (some (vi v)) d)=.next (spS X (some (vi (k / 8))) (some (.list ((acc++[w]).map V.str))) (some (vi v)) s)/\GW 4 w:=by
 have fin:∀ {sg:List Nat}{J:Ρ},J=spS X (some (vi k)) (some (.list (acc.map V.str))) (some (vi v)) (some (.str sg))->16<=sg.length->(∀ c∈sg,Oh c)->
   ∃ w s,ak (ae defs (n+1)) (.cons (.append 13 (.call .iN (.cons (.loc 14) (.cons (.bin .add (.bin .mod (.bin .fdiv (.loc 8) (.const (.int 2))) (.const (.int 4))) (.const (.int 1))) (.cons (.loc 15) .nil))))) (.cons (.assign 8 (.bin .fdiv (.loc 8) (.const (.int 8)))) .nil)) J=.next (spS X (some (vi (k / 8))) (some (.list ((acc++[w]).map V.str))) (some (vi v)) s)/\GW 4 w:=fun {sg J} h V8 Iu=>by
  refine⟨dy sg (k / 2 % 4+1) 4 v [],some (.str sg),?_,Dh V8 Iu v _ 4⟩
  have hd:ao (ae defs (n+1)) (.bin .add (.bin .mod (.bin .fdiv (.loc 8) (.const (.int 2))) (.const (.int 4))) (.const (.int 1))) J=.ok (vi (k / 2 % 4+1)):=
   E.bin (E.s7 4 (E.iR 2 (m:=k) (by rw[h];rfl))) rfl rfl
  have hc:ao (ae defs (n+1)) (.call .iN (.cons (.loc 14) (.cons (.bin .add (.bin .mod (.bin .fdiv (.loc 8) (.const (.int 2))) (.const (.int 4))) (.const (.int 1))) (.cons (.loc 15) .nil)))) J=.ok (.str (dy sg (k / 2 % 4+1) 4 v [])):=
   E.call (vs:=[vi v,vi (k / 2 % 4+1),.str sg]) (E.more (show ao (ae defs (n+1)) (.loc 14) J=.ok (vi v) by rw[h];rfl) (E.two hd (by rw[h];rfl))) (AO v _ 4 V8 hv (Nat.succ_le_of_lt (Nat.mod_lt _ (by decide))) (by decide))
  refine S.seq (S.append (by rw[h];rfl) hc (by rw[List.length_map];exact Nat.lt_trans hl (by decide)) rfl) (S.one (S.assign (E.iR 8 (m:=k) (by rw[h];rfl))) |>.trans ?_)
  rw[h,List.map_append];rfl
 have e0:bT (ae defs (n+1)) (.assign 15 (.glob cN)) (spS X (some (vi k)) (some (.list (acc.map V.str))) (some (vi v)) d)=.next (spS X (some (vi k)) (some (.list (acc.map V.str))) (some (vi v)) (some (.str gy))):=rfl
 have ec:ao (ae defs (n+1)) (.cmp .eq (.bin .mod (.loc 8) (.const (.int 2))) (.const (.int 1))) (spS X (some (vi k)) (some (.list (acc.map V.str))) (some (vi v)) (some (.str gy)))=.ok (.bool (decide (k % 2=1))):=
  E.cmp (E.bin rfl rfl (qN (Ra k))) rfl (b5 (e7 (k % 2) 1))
 by_cases h:k % 2=1
 ·refine bW (fin (sg:=Kb) rfl (by decide) Kc) fun w s zz=>aC zz fun q g=>?_
  exact⟨w,s,S.seq e0 (S.seq ((S.aF ec (decide_eq_true h)).trans (S.one (S.assign rfl))) q),g⟩
 ·refine bW (fin (sg:=gy) rfl (by decide) Dg) fun w s zz=>aC zz fun q g=>?_
  exact⟨w,s,S.seq e0 (S.seq ((S.cO ec (decide_eq_false h)).trans rfl) q),g⟩
theorem Hi {n:Nat}{X:Nat->Option V}:∀ (gs:List Nat) (k:Nat) (acc:List (List Nat)) (c d:Option V),(∀ x∈gs,x<65536)->acc.length+gs.length<=1000->PW 4 acc->
  ∃ W a b c',dh 14 (ak (ae defs (n+1)) iy) (vl gs) (spS X (some (vi k)) (some (.list (acc.map V.str))) c d)=.next (spS X a (some (.list (W.map V.str))) b c')/\PW 4 W/\W.length=acc.length+gs.length:=by
 intro z0
 induction z0 with
 | nil=>
  exact fun k acc c d O O hp=>⟨acc,some (vi k),c,d,rfl,hp,rfl⟩
 | cons v r ih=>
  intro k acc c d hg hl hp
  refine bW (Bg (n:=n) (X:=X) (k:=k) (acc:=acc) (d:=d) (hg v (.head _)) (Nat.lt_of_lt_of_le (Nat.lt_add_of_pos_right (Nat.succ_pos _)) hl)) fun w s zz=>aC zz fun hb hw=>?_
  have e1:(acc++[w]).length+r.length=acc.length+(v::r).length:=by rw[List.length_append,List.length_cons (a:=v),Nat.add_assoc,Nat.add_comm r.length];rfl
  refine kR (ih (k / 8) (acc++[w]) (some (vi v)) s (fun x hx=>hg x (.tail _ hx)) (by rw[e1];exact hl) (PW.app hp (.one hw))) fun W a b c' zz=>b6 zz fun e hW w6=>?_
  exact⟨W,a,b,c',F.cons hb e,hW,by rw[w6,e1]⟩
section
variable {n:Nat}{J:Ρ}
theorem yt {g:List Nat} (G:nq g) {W:List (List Nat)} (hW:PW 4 W) (hl:W.length=8) {k i:Nat} (hi:i<8) (l2:ao (ae defs (n+1)) (.loc 2) J=.ok (.list (vl g))) (l9:ao (ae defs (n+1)) (.loc 9) J=.ok (vi k)) (l10:ao (ae defs (n+1)) (.loc 10) J=.ok (vi i))
  (V9:ao (ae defs (n+1)) (.loc 13) J=.ok (.list (W.map V.str))) (hs:J.set 13 (some (.list (W.map V.str)))=J):Out J 13 (fun W'=>PW 20 W'/\W'.length=8) (bT (ae defs (n+1)) ku J):=by
 have Ul:i<W.length:=by rw[hl];exact hi
 obtain⟨w,hw⟩:∃ w,W[i]?=some w:=⟨_,List.getElem?_eq_getElem Ul⟩
 obtain⟨x,hx⟩:∃ x,g[i]?=some x:=⟨_,List.getElem?_eq_getElem (by rw[G.len];exact hi)⟩
 have Rz:=G.lt x (List.mem_of_getElem? hx)
 have at_:GE (ae defs (n+1)) J 4 (.idx (.loc 13) (.loc 10)):=⟨w,E.idx V9 l10 rfl (et (by rw[List.getElem?_map,hw];rfl)),hW w (List.mem_of_getElem? hw)⟩
 have WT:ao (ae defs (n+1)) (.idx (.loc 2) (.loc 10)) J=.ok (vi x):=E.idx l2 l10 rfl (et (by rw[List.getElem?_map,hx];rfl))
 have put:∀ {e:PE},GE (ae defs (n+1)) J 20 e->Out J 13 (fun W'=>PW 20 W'/\W'.length=8) (ak (ae defs (n+1)) (.cons (.setItem 13 (.loc 10) e) .nil) J):=fun ⟨v,he,hv⟩=>
  ⟨_,S.Ji he V9 l10 Ul,PW.set (fun x hx=>(hW x hx).mono (by decide)) hv i,by rw[List.length_set,hl]⟩
 have mono:∀ {k:Nat}{e:PE},GE (ae defs (n+1)) J k e->k<=20->GE (ae defs (n+1)) J 20 e:=fun ⟨t,a,b⟩ h=>⟨t,a,b.mono h⟩
 refine S.bZ l9 (put ?_) (S.elif (S.bZ l9 (put ?_) (S.elif (S.bZ l9 (put ⟨[],rfl,fun c hc=>(by contradiction),Nat.zero_le _⟩) (S.elif (S.bZ l9 (put (mono (GE.add (m:=5) (GE.lit (k:=1) (by decide)) at_ (by decide)) (by decide))) (S.elif (S.bZ l9 (put ?_) ⟨W,?_,fun x hx=>(hW x hx).mono (by decide),hl⟩))))))))
 ·exact⟨_,E.call (vs:=[vi x,vi 5,.str gy]) (E.more WT rfl) (AO (m:=n) (sg:=gy) x 5 5 (by decide) (Nat.lt_of_lt_of_le Rz (by decide)) (by decide) (by decide)),(Dh (by decide) Dg x 5 5).mono (by decide)⟩
 ·exact mono (GE.add (m:=5) (GE.slice at_ (BE.num rfl) BE.no) (GE.lit (k:=1) (by decide)) (by decide)) (by decide)
 ·have J1:∀ y∈aK [x,x],y<256:=cX [x,x] (fun y hy=>by rcases List.mem_cons.mp hy with q | q;rw[q];exact Rz;rw[List.mem_singleton.mp q];exact Rz)
  refine⟨bQ (aK [x,x]),E.call (E.one (E.call (E.one (E.lst (E.two WT WT))) (vL x x))) (vK _ (by decide:(4:Nat)<=100) fun y hy=>Nat.lt_trans (J1 y hy) (by decide)),fun c hc=>?_,Nat.le_trans (mz (J1 _ (.head _)) (J1 _ (.tail _ (.head _))) (J1 _ (.tail _ (.tail _ (.head _)))) (J1 _ (.tail _ (.tail _ (.tail _ (.head _)))))) (by decide)⟩
  rcases jt hc with h | ⟨v,hv,h⟩
  ·rw[List.mem_singleton.mp h];exact⟨by decide,by decide⟩
  ·refine Exists.elim (List.mem_map.mp hv) fun y zz=>aC zz fun hy aw=>?_;clear zz;subst aw
   exact (v7 (Nat.lt_trans (J1 y hy) (by decide))).1 c h
 ·rw[hs];rfl
theorem Bh {g:List Nat} (G:nq g) {W:List (List Nat)} (hW:PW 20 W) (hl:W.length=8) {k:Nat} (l2:ao (ae defs (n+1)) (.loc 2) J=.ok (.list (vl g))) (Yg:ao (ae defs (n+1)) (.loc 12) J=.ok (vi k))
  (V9:ao (ae defs (n+1)) (.loc 13) J=.ok (.list (W.map V.str))) (hs:J.set 13 (some (.list (W.map V.str)))=J):Out J 13 (fun W'=>PW 20 W'/\W'.length<=8) (bT (ae defs (n+1)) kx J):=by
 refine S.qM (p:=k % 2=1) (E.cmp (E.s7 2 Yg) rfl (b5 (e7 (k % 2) 1))) (fun O=>?_) fun O=>⟨W,by rw[hs];rfl,hW,Nat.le_of_eq hl⟩
 refine bW G.tail fun p q zz=>b6 zz fun ht hp hq=>?_
 refine Exists.elim (yr (n:=n) (four:=aK [p,q]) rfl (cX [p,q] (fun y hy=>by rcases List.mem_cons.mp hy with z | z;rw[z];exact hp;rw[List.mem_singleton.mp z];exact hq)) (k / 2)) fun d zz=>aC zz fun hd Un=>?_
 have WD:aP (.list (vl g)) (.int 6) .none=.ok (.list (vl [p,q])):=by
  have:=fG (vl g) 6
  rw[<- List.map_drop,ht] at this
  exact this
 have Zm:aP (.list (W.map V.str)) .none (.int 6)=.ok (.list ((W.take 6).map V.str)):=by
  have:=fF (W.map V.str) 6
  rw[<- List.map_take] at this
  exact this
 have h7:(W.take 6++[d]).length=7:=by rw[List.length_append,List.length_take,hl];rfl
 refine⟨W.take 6++[d],S.last.trans (S.own (E.bin (E.slice V9 rfl rfl rfl Zm) (y:=.list [.str d]) ?_ ?_)),PW.app (hW.take 6) (.one Un),by rw[h7];decide⟩
 ·exact E.lst (E.one (E.call (E.two (E.iR 2 Yg) (E.call (E.one (E.slice (l:=.int 6) (h:=.none) l2 rfl rfl rfl WD)) (vL p q))) hd))
 ·rw[List.map_append]
  exact e8 (show _<=lim by rw[<- List.length_append,show ([V.str d]:List V)=[d].map V.str from rfl,<- List.map_append,List.length_map,h7];decide) rfl
theorem Bi {kind one two lo hi:Nat} (Qj:WE (ae defs (n+1)) J 20 8 (.loc 13)) (l3:ao (ae defs (n+1)) (.loc 3) J=.ok (vi kind)) (l4:ao (ae defs (n+1)) (.loc 4) J=.ok (vi one)) (l5:ao (ae defs (n+1)) (.loc 5) J=.ok (vi two))
  (l6:ao (ae defs (n+1)) (.loc 6) J=.ok (vi lo)) (l7:ao (ae defs (n+1)) (.loc 7) J=.ok (vi hi)):Ke J 16 508 (bT (ae defs (n+1)) ky J):=by
 have a:=WE.slice Qj BE.no (BE.num l6)
 have b:=WE.slice Qj (BE.num l7) BE.no
 have c:=WE.slice Qj (BE.num l6) (BE.num l7)
 have ja:=GE.join (m:=168) a (by decide)
 have jb:=GE.join (m:=168) b (by decide)
 have jc:=GE.join (m:=168) c (by decide)
 refine S.qM (p:=(kind:Int)<2) (E.cmp l3 rfl rfl) (fun O=>.of (GE.join Qj (by decide))) fun O=>S.elif (S.qM (p:=(kind:Int)<5) (E.cmp l3 rfl rfl) (fun O=>.of (GE.add (m:=508) (GE.add (m:=170) ja (GE.lit (k:=2) (by decide)) (by decide)) jb (by decide))) fun O=>S.elif ?_)
 have e5:ao (ae defs (n+1)) (.and (.cmp .eq (.loc 3) (.const (.int 5))) (.cmp .lt (.loc 4) (.loc 5))) J=.ok (.bool (decide ((kind:Int)=5/\(one:Int)<two))):=by rw[C.and (E.cmp l3 rfl rfl) (E.cmp l4 l5 rfl)];exact b5 (Bool.decide_and _ _).symm
 refine S.qM e5 (fun O=>.of (GE.join (WE.add a b (by decide)) (by decide))) fun O=>S.elif (S.bZ l3 (.of (GE.join (WE.add Qj a (by decide)) (by decide))) (S.elif (S.bZ l3 (.of ?_) (.of (GE.add (m:=508) (GE.add (m:=171) ja (GE.lit (k:=3) (by decide)) (by decide)) jb (by decide))))))
 exact GE.add (m:=508) (GE.add (m:=340) (GE.add (m:=338) (GE.add (m:=170) ja (GE.lit (k:=2) (by decide)) (by decide)) jc (by decide)) (GE.lit (k:=2) (by decide)) (by decide)) jb (by decide)
theorem Hj {fault:Nat}{t:List Nat} (ht:GW 508 t) (l9:ao (ae defs (n+1)) (.loc 9) J=.ok (vi fault)) (WU:ao (ae defs (n+1)) (.loc 16) J=.ok (.str t)) (hs:J.set 16 (some (.str t))=J):Ke J 16 509 (bT (ae defs (n+1)) kz J):=by
 have h:GE (ae defs (n+1)) J 508 (.loc 16):=⟨t,WU,ht⟩
 exact S.bZ l9 (.of (GE.add h (GE.lit (k:=1) (by decide)) (by decide))) (S.elif (S.bZ l9 (.of (GE.add (GE.lit (k:=1) (by decide)) h (by decide))) ⟨t,by rw[hs];rfl,ht.mono (by decide)⟩))
theorem yu {scope:Nat}{t:List Nat} (ht:GW 509 t) (Wa:ao (ae defs (n+1)) (.loc 11) J=.ok (vi scope)) (WU:ao (ae defs (n+1)) (.loc 16) J=.ok (.str t)) (hs:J.set 16 (some (.str t))=J):Ke J 16 514 (bT (ae defs (n+1)) kA J):=by
 have h:GE (ae defs (n+1)) J 509 (.loc 16):=⟨t,WU,ht⟩
 exact S.bZ Wa (.of (GE.add h (GE.lit (k:=5) (by decide)) (by decide))) (S.elif (S.bZ Wa (.of (GE.add h (GE.lit (k:=5) (by decide)) (by decide))) (S.elif (S.bZ Wa (.of (GE.add h (GE.lit (k:=5) (by decide)) (by decide))) (S.elif (S.bZ Wa (.of (GE.add h (GE.lit (k:=5) (by decide)) (by decide))) ⟨t,by rw[hs];rfl,ht.mono (by decide)⟩))))))
end
theorem uC {n:Nat} (xs:List Int) (p:Nat) (hp:p+7<33) {g:List Nat} (G:nq g):∃ t,ae defs (n+2) .eS [.list (xs.map V.int),vi p,.list (vl g)]=.ok (.str t)/\GW 514 t:=by
 have at_:∀ aaQ,aaQ<=7->p+aaQ<33:=fun aaQ h=>Nat.lt_of_le_of_lt (Nat.add_le_add_left h p) hp
 refine Exists.elim (draw (n:=n) xs (p+0) (at_ 0 (by decide)) 8 (by decide)) fun kind zz=>aC zz fun O d0=>?_
 refine Exists.elim (draw (n:=n) xs (p+1) (at_ 1 (by decide)) 9 (by decide)) fun one zz=>aC zz fun O d1=>?_
 refine Exists.elim (draw (n:=n) xs (p+2) (at_ 2 (by decide)) 9 (by decide)) fun two zz=>aC zz fun O d2=>?_
 refine Exists.elim (draw (n:=n) xs (p+3) (at_ 3 (by decide)) 16777216 (by decide)) fun look zz=>aC zz fun O d3=>?_
 refine Exists.elim (draw (n:=n) xs (p+4) (at_ 4 (by decide)) 20 (by decide)) fun fault zz=>aC zz fun O d4=>?_
 refine Exists.elim (draw (n:=n) xs (p+5) (at_ 5 (by decide)) 8 (by decide)) fun spot zz=>aC zz fun h8 d5=>?_
 refine Exists.elim (draw (n:=n) xs (p+6) (at_ 6 (by decide)) 12 (by decide)) fun scope zz=>aC zz fun O d6=>?_
 refine Exists.elim (draw (n:=n) xs (p+7) hp 96 (by decide)) fun quad zz=>aC zz fun O d7=>?_
 obtain⟨X,hX⟩:∃ X:Nat->Option V,X=fun i=>[some (.list (xs.map V.int)),some (vi p),some (.list (vl g)),some (vi kind),some (vi one),some (vi two),some (vi (min one two)),some (vi (max one two)),none,some (vi fault),some (vi spot),some (vi scope),some (vi quad)].getD i none:=⟨_,rfl⟩
 have x2:X 2=some (.list (vl g)):=by rw[hX];rfl
 have x3:X 3=some (vi kind):=by rw[hX];rfl
 have x4:X 4=some (vi one):=by rw[hX];rfl
 have x5:X 5=some (vi two):=by rw[hX];rfl
 have x6:X 6=some (vi (min one two)):=by rw[hX];rfl
 have x7:X 7=some (vi (max one two)):=by rw[hX];rfl
 have x9:X 9=some (vi fault):=by rw[hX];rfl
 have dx:X 10=some (vi spot):=by rw[hX];rfl
 have cG:X 11=some (vi scope):=by rw[hX];rfl
 have cK:X 12=some (vi quad):=by rw[hX];rfl
 refine kR (Hi (n:=n) (X:=X) g look [] none none G.lt (by rw[G.len];decide) (fun w hw=>by contradiction)) fun W a b c zz=>b6 zz fun WM hW w6=>?_
 rw[List.length_nil,G.len] at w6
 refine Exists.elim (yt (n:=n) (J:=spS X a (some (.list (W.map V.str))) b c) (k:=fault) (i:=spot) G hW w6 h8 (E.loc x2) (E.loc x9) (E.loc dx) rfl rfl) fun W2 zz=>b6 zz fun V2 Zn A0=>?_
 refine Exists.elim (Bh (n:=n) (J:=spS X a (some (.list (W2.map V.str))) b c) (k:=quad) G Zn A0 (E.loc x2) (E.loc cK) rfl rfl) fun W3 zz=>b6 zz fun Zo Oj Zq=>?_
 refine Exists.elim (Bi (n:=n) (J:=spS X a (some (.list (W3.map V.str))) b c) (kind:=kind) (one:=one) (two:=two) (lo:=min one two) (hi:=max one two) ⟨W3,rfl,Oj,Zq⟩ (E.loc x3) (E.loc x4) (E.loc x5) (E.loc x6) (E.loc x7)) fun t zz=>aC zz fun Zr ht=>?_
 refine Exists.elim (Hj (n:=n) (J:=(spS X a (some (.list (W3.map V.str))) b c).set 16 (some (.str t))) (fault:=fault) ht (E.loc x9) rfl rfl) fun u zz=>aC zz fun Zt hu=>?_
 refine Exists.elim (yu (n:=n) (J:=(spS X a (some (.list (W3.map V.str))) b c).set 16 (some (.str u))) (scope:=scope) hu (E.loc cG) rfl rfl) fun v zz=>aC zz fun Zu hv=>?_
 have S7:ak (ae defs (n+1)) k4 [some (.list (xs.map V.int)),some (vi p),some (.list (vl g)),none,none,none,none,none,none,none,none,none,none,none,none,none,none]=ak (ae defs (n+1)) kB (spS X (some (vi look)) (some (.list (([]:List (List Nat)).map V.str))) none none):=by
  rw[hX]
  refine S.seq (S.assign (d0 _ _ (by kernel_rfl) (by kernel_rfl))) (S.seq (S.assign (d1 _ _ (by kernel_rfl) (by kernel_rfl))) (S.seq (S.assign (d2 _ _ (by kernel_rfl) (by kernel_rfl))) ?_))
  refine S.seq (S.assign (v:=vi (min one two)) ((by kernel_rfl:_=R.ok (.int (if (two:Int)<(one:Int) then (two:Int) else (one:Int)))).trans (qN (Oq one two)))) ?_
  refine S.seq (S.assign (v:=vi (max one two)) ((by kernel_rfl:_=R.ok (.int (if (one:Int)<(two:Int) then (two:Int) else (one:Int)))).trans (qN (Ot one two)))) ?_
  exact S.seq (S.assign (d3 _ _ (by kernel_rfl) (by kernel_rfl))) (S.seq (S.assign (d4 _ _ (by kernel_rfl) (by kernel_rfl))) (S.seq (S.assign (d5 _ _ (by kernel_rfl) (by kernel_rfl))) (S.seq (S.assign (d6 _ _ (by kernel_rfl) (by kernel_rfl))) (S.seq (S.assign (d7 _ _ (by kernel_rfl) (by kernel_rfl))) (by kernel_rfl)))))
 refine⟨v,S.val (p:=k4) (S7.trans (S.seq (S.for (xs:=vl g) (f7 (E.loc x2) rfl) (by rw[List.length_map,G.len];decide) WM) (S.seq V2 (S.seq Zo (S.seq Zr (S.seq Zt (S.seq Zu (S.end (S.ret (by kernel_rfl)))))))))),hv⟩
def RA (J:Ρ) (acc:List Nat) (z:SR):Prop:=∃ v,v<65536/\z=.next (J.set 1 (some (.list (vl (acc++[v])))))
theorem RA.of {D:Fn->List V->R V}{J:Ρ}{acc:List Nat}{e:PE}{v:Nat} (h1:J[1]?=some (some (.list (vl acc)))) (hl:acc.length<1000) (h:ao D e J=.ok (vi v)) (hv:v<65536):RA J acc (ak D (.cons (.append 1 e) .nil) J):=
 ⟨v,hv,by rw[S.last,S.append h1 h (by rw[List.length_map];exact Nat.lt_trans hl (by decide)) rfl,<- List.map_singleton (f:=vi),<- List.map_append]⟩
theorem Bj {n:Nat} (xs:List Int) {s:Nat} (hs:s<33) {acc:List Nat} (hl:acc.length<1000) {x3 x4 x5:Option V} :
  ∃ k m,RA [some (.list (xs.map V.int)),some (.list (vl acc)),some (vi s),some (vi k),some (vi m),x5] acc (ak (ae defs (n+1)) jf [some (.list (xs.map V.int)),some (.list (vl acc)),some (vi s),x3,x4,x5]):=by
 refine Exists.elim (draw (n:=n) xs s hs 524288 (by decide)) fun k zz=>aC zz fun hk d=>?_
 refine⟨k,k % 8,?_⟩
 obtain⟨J,Ir⟩:∃ J,J=([some (.list (xs.map V.int)),some (.list (vl acc)),some (vi s),some (vi k),some (vi (k % 8)),x5]:Ρ):=⟨_,rfl⟩
 refine S.tail (ρ':=[some (.list (xs.map V.int)),some (.list (vl acc)),some (vi s),some (vi k),x4,x5]) (S.assign (d _ _ rfl rfl)) (S.tail (ρ':=[some (.list (xs.map V.int)),some (.list (vl acc)),some (vi s),some (vi k),some (vi (k % 8)),x5]) (S.assign (E.s7 8 (m:=k) rfl)) ?_)
 rw[<- Ir]
 have h1:J[1]?=some (some (.list (vl acc))):=by rw[Ir];rfl
 have l4:ao (ae defs (n+1)) (.loc 4) J=.ok (vi (k % 8)):=by rw[Ir];rfl
 have l3:ao (ae defs (n+1)) (.loc 3) J=.ok (vi k):=by rw[Ir];rfl
 exact S.elif (S.qM (p:=((k % 8:Nat):Int)<4) (E.cmp l4 rfl rfl) (fun O=>.of (v:=0) h1 hl rfl (by decide)) fun O=>S.elif (S.bZ l4 (.of (v:=1) h1 hl rfl (by decide)) (S.elif (S.bZ l4 (.of (v:=65535) h1 hl rfl (by decide)) (S.elif (S.bZ l4 (.of (v:=3512) h1 hl rfl (by decide)) (.of h1 hl (E.iR 8 l3) (Nat.div_lt_of_lt_mul hk))))))))
theorem Bk {n:Nat} (xs:List Int):∀ (m s:Nat) (acc:List Nat) (x2 x3 x4 x5:Option V),s+m<=33->acc.length+m<=1000->(∀ x∈acc,x<65536)->
  ∃ W a b c,dh 2 (ak (ae defs (n+1)) jf) ((List.range' s m).map vi) [some (.list (xs.map V.int)),some (.list (vl acc)),x2,x3,x4,x5]=.next [some (.list (xs.map V.int)),some (.list (vl W)),a,b,c,x5]/\W.length=acc.length+m/\∀ x∈W,x<65536:=by
 intro z0
 induction z0 with
 | zero=>
  exact fun s acc x2 x3 x4 x5 O O ha=>⟨acc,x2,x3,x4,rfl,rfl,ha⟩
 | succ m ih=>
  intro s acc x2 x3 x4 x5 hs hl ha
  refine eR (Bj (n:=n) xs (s:=s) (Nat.lt_of_lt_of_le (Nat.lt_add_of_pos_right (Nat.succ_pos m)) hs) (Nat.lt_of_lt_of_le (Nat.lt_add_of_pos_right (Nat.succ_pos m)) hl) (x3:=x3) (x4:=x4) (x5:=x5)) fun k q v zz=>aC zz fun hv hb=>?_
  have e1:(acc++[v]).length+m=acc.length+(m+1):=by rw[List.length_append,Nat.add_assoc,Nat.add_comm m];rfl
  refine kR (ih (s+1) (acc++[v]) (some (vi s)) (some (vi k)) (some (vi q)) x5 (by rw[Nat.add_right_comm];exact hs) (by rw[e1];exact hl) (fun x hx=>(List.mem_append.mp hx).elim (ha x) fun q=>by rw[List.mem_singleton.mp q];exact hv)) fun W a b c zz=>b6 zz fun e w6 hW=>?_
  exact⟨W,a,b,c,F.cons hb e,by rw[w6,e1],hW⟩
def WV (L:List Nat->Ρ) (z:SR):Prop:=∃ g,nq g/\z=.next (L g)
theorem Kf {n:Nat} (xs:List Int):∃ g,nq g/\ae defs (n+2) .ia [.list (xs.map V.int)]=.ok (.list (vl g)):=by
 refine kR (Bk (n:=n) xs 8 0 [] none none none none (by decide) (by decide) (fun x hx=>by contradiction)) fun W a b c zz=>b6 zz fun e w6 hW=>?_
 refine Exists.elim (draw (n:=n) xs 8 (by decide) 8 (by decide)) fun k zz=>aC zz fun O d=>?_
 rw[List.length_nil,Nat.zero_add] at w6
 suffices h:WV (fun g=>[some (.list (xs.map V.int)),some (.list (vl g)),a,b,c,some (vi k)]) (bT (ae defs (n+1)) oP [some (.list (xs.map V.int)),some (.list (vl W)),a,b,c,some (vi k)]) by
  refine Exists.elim h fun g zz=>aC zz fun G h=>?_
  exact⟨g,G,S.val (p:=tV) (S.seq (S.own (l:=[]) rfl) (S.seq (S.for (fE (k:=8) rfl (by decide)) (by decide) e) (S.seq (S.assign (d _ _ rfl rfl)) (S.seq h (S.end (S.ret rfl))))))⟩
 refine S.qM (p:=(k:Int)<2) (E.cmp rfl rfl rfl) (fun O=>?_) fun O=>⟨W,⟨w6,hW⟩,rfl⟩
 have Yh:(W.drop 5).length=3:=by rw[List.length_drop,w6]
 have hd:aP (.list (vl W)) (.int 5) .none=.ok (.list (vl (W.drop 5))):=by
  have:=fG (vl W) 5
  rw[<- List.map_drop] at this
  exact this
 have hD:∀ x∈W.drop 5,x<65536:=fun x hx=>hW x (List.mem_of_mem_drop hx)
 generalize W.drop 5=aaP at Yh hd hD
 obtain⟨p,q,r,rfl⟩:∃ p q r,aaP=[p,q,r]:=by
  match aaP,Yh with
  | [p,q,r],_=>exact⟨p,q,r,rfl⟩
 have grp:∀ v,v<65536->nq [0,0,0,0,0,p,q,r]/\nq [0,0,0,0,0,v,q,r]:=fun v hv=>by
  have h0:(0:Nat)<65536:=by decide
  have all:∀ u,u<65536->∀ x∈[0,0,0,0,0,u,q,r],x<65536:=fun u hu=>by
   simp only[List.forall_mem_cons]
   exact⟨h0,h0,h0,h0,h0,hu,hD q (.tail _ (.head _)),hD r (.tail _ (.tail _ (.head _))),fun x hx=>by contradiction⟩
  exact⟨⟨rfl,all p (hD p (.head _))⟩,⟨rfl,all v hv⟩⟩
 have e1:bT (ae defs (n+1)) (.own 1 (.bin .add (.list (.cons (.const (.int 0)) (.cons (.const (.int 0)) (.cons (.const (.int 0)) (.cons (.const (.int 0)) (.cons (.const (.int 0)) .nil)))))) (.slice (.loc 1) (.const (.int 5)) (.const .none)))) [some (.list (xs.map V.int)),some (.list (vl W)),a,b,c,some (vi k)]=.next [some (.list (xs.map V.int)),some (.list (vl [0,0,0,0,0,p,q,r])),a,b,c,some (vi k)]:=
  S.own (E.bin (x:=.list (vl [0,0,0,0,0])) (y:=.list (vl [p,q,r])) rfl (E.slice (l:=.int 5) (h:=.none) rfl rfl rfl rfl hd) rfl)
 refine S.tail e1 (S.elif (S.bZ (k:=k) rfl ⟨[0,0,0,0,0,65535,q,r],(grp 65535 (by decide)).2,?_⟩ ⟨[0,0,0,0,0,0,q,r],(grp 0 (by decide)).2,?_⟩))
 ·exact S.last.trans (S.setItem (k:=5) (v:=vi 65535) (xs:=vl [0,0,0,0,0,p,q,r]) rfl rfl rfl (by show (5:Nat)<8;decide) rfl)
 ·exact S.last.trans (S.setItem (k:=5) (v:=vi 0) (xs:=vl [0,0,0,0,0,p,q,r]) rfl rfl rfl (by show (5:Nat)<8;decide) rfl)
theorem v9 {t:List Nat}{k:Nat} (h:GW k t) (hk:k<=520):Txt t:=⟨fun c hc=>(h.1 c hc).1,fun q=>(h.1 10 q).2 rfl,Nat.le_trans h.2 hk⟩
theorem Hk {g h:List Nat} (G:nq g) (H:nq h):decide (cR g=cR h)=decide (g=h):=by
 apply decide_eq_decide.mpr
 constructor
 ·intro e
  have:=iE G
  rw[e,iE H] at this
  exact (Option.some.inj this).symm
 ·intro e;rw[e]
theorem mB {n:Nat}{f:Int}{t:List Nat} (T:Txt t) {A:List V} (h9:ao (ae defs (n+6)) (.loc 9) (sq 13 A)=.ok (.str t)) (h2:ao (ae defs (n+6)) (.loc 2) (sq 13 A)=.ok (.int f)):ak (ae defs (n+6)) C1 (sq 13 A)=.next (sq 13 A):=
 S.one (S.skip (E.not (E.call (E.two h9 h2) (Rw (n:=n) T)) rfl))
theorem RB {n:Nat}{one two:List Nat} (T1:Txt one) (T2:Txt two) {A:List V} (h4:ao (ae defs (n+6)) (.loc 4) (sq 13 A)=.ok (.str one)) (h5:ao (ae defs (n+6)) (.loc 5) (sq 13 A)=.ok (.str two)) (oX:ao (ae defs (n+6)) (.loc 10) (sq 13 A)=.ok (ov (bB one)))
  (Uo:ao (ae defs (n+6)) (.loc 11) (sq 13 A)=.ok (ov (bB two))):bT (ae defs (n+6)) xH (sq 13 A)=.next (sq 13 A):=by
 have c1:=mA (n:=n+2) T1
 have c2:=mA (n:=n+2) T2
 unfold dq at c1 c2
 cases q1:bB one with
 | none=>
  rw[q1] at oX
  exact S.skip (E.Jh (E.cmp oX rfl rfl) rfl)
 | some a=>
  cases q2:bB two with
  | none=>
   rw[q1] at oX
   rw[q2] at Uo
   exact S.skip (E.Jg (E.cmp oX rfl rfl) rfl (E.cmp Uo rfl rfl))
  | some b=>
   rw[q1] at oX c1
   rw[q2] at Uo c2
   have e1:ao (ae defs (n+6)) (.cmp .eq (.call .eY (.cons (.loc 4) .nil)) (.call .eY (.cons (.loc 5) .nil))) (sq 13 A)=.ok (.bool (decide (a=b))):=E.cmp (E.call (E.one h4) c1) (E.call (E.one h5) c2) (b5 (Hk (rI (iD q1)) (rI (iD q2))))
   have e2:ao (ae defs (n+6)) (.cmp .eq (.loc 10) (.loc 11)) (sq 13 A)=.ok (.bool (decide (a=b))):=E.cmp oX Uo (by rw[vI];unfold ov;rw[JR];rfl)
   exact (S.aF (C.and (E.cmp oX rfl rfl) (E.cmp Uo rfl rfl)) rfl).trans (S.one (S.skip (E.cmp e1 e2 (b5 (by cases decide (a=b)<;>rfl)))))
theorem Kg (n:Nat) (xs:List Int):ae defs (n+7) .law [.list (xs.map V.int)]=.ok (.bool true):=by
 refine Exists.elim (Kf (n:=n+4) xs) fun g zz=>aC zz fun G hg=>?_
 refine Exists.elim (draw (n:=n+5) xs 31 (by decide) 16 (by decide)) fun Zv zz=>aC zz fun Zw df=>?_
 obtain⟨f,WW⟩:∃ f,f=(Zv:Int) - 2:=⟨_,rfl⟩
 have Zx:f.natAbs<1000:=by omega
 refine Exists.elim (draw (n:=n+5) xs 32 (by decide) 24 (by decide)) fun RD zz=>aC zz fun Zy ds=>?_
 obtain⟨size,ka,h3⟩:∃ size:Nat,size<=20/\bT (ae defs (n+6)) C2 (sq 13 [.list (xs.map V.int),.list (vl g),.int f,vi RD])=.next (sq 13 [.list (xs.map V.int),.list (vl g),.int f,vi size]):=by
  by_cases h:20<RD
  ·exact⟨4,by decide,(S.aF (E.cmp (op:=.gt) (x:=vi RD) (y:=vi 20) rfl rfl (b5 (fP 20 RD))) (decide_eq_true h)).trans (S.one (S.assign rfl))⟩
  ·exact⟨RD,Nat.le_of_not_lt h,S.skip (E.cmp (op:=.gt) (x:=vi RD) (y:=vi 20) rfl rfl (b5 ((fP 20 RD).trans (decide_eq_false h))))⟩
 refine Exists.elim (uC (n:=n+4) xs 9 (by decide) G) fun one zz=>aC zz fun h1 g1=>?_
 refine Exists.elim (uC (n:=n+4) xs 17 (by decide) G) fun two zz=>aC zz fun h2 g2=>?_
 refine Exists.elim (P5 (n:=n+5) xs 25 (by decide)) fun zq Zz=>?_
 refine Exists.elim (Ry (n:=n+5) zq) fun free zz=>aC zz fun h6 g6=>?_
 refine Exists.elim (draw (n:=n+5) xs 26 (by decide) 256 (by decide)) fun a zz=>aC zz fun la da=>?_
 refine Exists.elim (draw (n:=n+5) xs 27 (by decide) 256 (by decide)) fun b zz=>aC zz fun lb db=>?_
 refine Exists.elim (draw (n:=n+5) xs 28 (by decide) 256 (by decide)) fun c zz=>aC zz fun lc dc=>?_
 refine Exists.elim (draw (n:=n+5) xs 29 (by decide) 256 (by decide)) fun d zz=>aC zz fun ld dd=>?_
 have h4:∀ x∈[a,b,c,d],x<256:=by
  simp only[List.forall_mem_cons]
  exact⟨la,lb,lc,ld,fun x hx=>by contradiction⟩
 refine Exists.elim (draw (n:=n+5) xs 30 (by decide) 48 (by decide)) fun ZC zz=>aC zz fun O dm=>?_
 refine Exists.elim (yr (n:=n+5) (four:=[a,b,c,d]) rfl h4 ZC) fun dot zz=>aC zz fun oX ZD=>?_
 have T1:=v9 g1 (by decide)
 have T2:=v9 g2 (by decide)
 have T6:=v9 g6 (by decide)
 have ZE:=v9 ZD (by decide)
 have h9:ao (ae defs (n+6)) (.comp (.bin .mod (.call .qi (.cons (.loc 0) (.cons (.loc 12) .nil))) (.const (.int 256))) 12 (.sO (.const (.int 26)) (.const (.int 30)) 1) (.const (.bool true))) (sq 13 [.list (xs.map V.int),.list (vl g),.int f,vi size,.str one,.str two,.str free])=.ok (.list (vl [a,b,c,d])):=by
  refine (E.map (f:=fun x=>V.casesOn x (vi d) (fun O=>vi d) (fun i=>if i=26 then vi a else if i=27 then vi b else if i=28 then vi c else vi d) (fun O=>vi d) (fun O=>vi d) (fun O=>vi d) (fun O=>vi d) fun O=>vi d) (xs:=[.int 26,.int 27,.int 28,.int 29]) (by kernel_rfl) (by decide) ?_).trans rfl
  simp only[List.forall_mem_cons]
  exact⟨da _ _ rfl rfl,db _ _ rfl rfl,dc _ _ rfl rfl,dd _ _ rfl rfl,fun x hx=>by contradiction⟩
 refine S.val (p:=P0) ?_
 refine S.seq (S.push (N:=13) (A:=[.list (xs.map V.int)]) (E.call (E.one rfl) hg)) (S.seq (S.push (v:=.int f) (E.bin (df _ _ rfl rfl) rfl (qN WW.symm))) (S.seq (S.push (ds _ _ rfl rfl)) (S.seq h3 ?_)))
 refine S.seq (S.skip (E.not (E.call (E.one rfl) (Rx (n:=n) G)) rfl)) (S.seq (S.skip (C.or (E.not (E.call (vs:=[.list (vl g),vi size,.int f]) rfl (Hg (n:=n) G ka f)) rfl) (E.not (E.call (E.one rfl) (Uk (n:=n) Zx)) rfl))) ?_)
 refine S.seq (S.push (E.call (vs:=[.list (xs.map V.int),vi 9,.list (vl g)]) rfl h1)) (S.seq (S.push (E.call (vs:=[.list (xs.map V.int),vi 17,.list (vl g)]) rfl h2)) (S.seq (S.push (E.call (E.one (E.call (E.two rfl rfl) Zz)) h6)) (S.seq (S.push h9) (S.seq (S.push (E.call (E.two (dm _ _ rfl rfl) rfl) oX)) ?_))))
 refine S.seq (ρ':=sq 13 [.list (xs.map V.int),.list (vl g),.int f,vi size,.str one,.str two,.str free,.list (vl [a,b,c,d]),.str dot,.str dot]) (S.for (xs:=[.str one,.str two,.str free,.str dot]) (by kernel_rfl) (by show (4:Nat)<=1000000;decide) ?_) ?_
 ·exact F.cons (mB (A:=[.list (xs.map V.int),.list (vl g),.int f,vi size,.str one,.str two,.str free,.list (vl [a,b,c,d]),.str dot,.str one]) T1 rfl rfl) (F.cons (mB (A:=[.list (xs.map V.int),.list (vl g),.int f,vi size,.str one,.str two,.str free,.list (vl [a,b,c,d]),.str dot,.str two]) T2 rfl rfl) (F.cons (mB (A:=[.list (xs.map V.int),.list (vl g),.int f,vi size,.str one,.str two,.str free,.list (vl [a,b,c,d]),.str dot,.str free]) T6 rfl rfl) (F.cons (mB (A:=[.list (xs.map V.int),.list (vl g),.int f,vi size,.str one,.str two,.str free,.list (vl [a,b,c,d]),.str dot,.str dot]) ZE rfl rfl) rfl)))
 refine S.seq (S.push (E.call (E.one rfl) (vQ (n:=n+3) one T1.asc T1.len))) (S.seq (S.push (E.call (E.one rfl) (vQ (n:=n+3) two T2.asc T2.len))) (S.seq (RB T1 T2 rfl rfl rfl rfl) (S.end (S.ret rfl))))
end Mine.Internal.P
end
section
open PySem PySem.Calls PyProof.Rows PySem.W
namespace Mine.Internal
mutual
noncomputable def Rep (g:Addr->Obj->Prop):V->Value->Prop
 | .none,v=>v=.none
 | .bool b,v=>v=.bool b
 | .int i,v=>∃ t,v=.int i t
 | .str x,v=>∃ y t,v=.str y t/\y.cps.toList=x/\x.length<=16777216
 | .bytes x,v=>∃ y t,v=.bytes y t/\y.toList.map UInt8.toNat=x/\x.length<=16777216
 | .cj x,v=>∃ a o y n,v=.ref a/\g a o/\o.cls=.type "bytearray"/\o.data=.bytearray y n/\n=0/\y.toList.map UInt8.toNat=x/\x.length<=16777216
 | .list ds,v=>∃ a o vs n,v=.ref a/\g a o/\o.cls=.type "list"/\o.data=.seq vs n/\ds.length<=16777216/\az g ds vs.toList
 | .tuple ds,v=>∃ a o vs n,v=.ref a/\g a o/\o.cls=.type "tuple"/\o.data=.seq vs n/\ds.length<=16777216/\az g ds vs.toList
noncomputable def az (g:Addr->Obj->Prop):List V->List Value->Prop
 | [],vs=>vs=[]
 | d::ds,vs=>∃ v r,vs=v::r/\Rep g d v/\az g ds r
end
theorem Kh {g:Addr->Obj->Prop}:Rep g .none v=(v=.none):=rfl
theorem Ki {g:Addr->Obj->Prop}:Rep g (.bool b) v=(v=.bool b):=rfl
theorem Kj {g:Addr->Obj->Prop}:Rep g (.int i) v=(∃ t,v=.int i t):=rfl
theorem RG {g:Addr->Obj->Prop}:Rep g (.str x) v=(∃ y t,v=.str y t/\y.cps.toList=x/\x.length<=16777216):=rfl
theorem RH {g:Addr->Obj->Prop}:Rep g (.bytes x) v=(∃ y t,v=.bytes y t/\y.toList.map UInt8.toNat=x/\x.length<=16777216):=rfl
theorem RJ {g:Addr->Obj->Prop}:Rep g (.cj x) v=(∃ a o y n,v=.ref a/\g a o/\o.cls=.type "bytearray"/\o.data=.bytearray y n/\n=0/\y.toList.map UInt8.toNat=x/\x.length<=16777216):=rfl
theorem Bl {g:Addr->Obj->Prop}:Rep g (.list ds) v=(∃ a o vs n,v=.ref a/\g a o/\o.cls=.type "list"/\o.data=.seq vs n/\ds.length<=16777216/\az g ds vs.toList):=rfl
theorem RK {g:Addr->Obj->Prop}:Rep g (.tuple ds) v=(∃ a o vs n,v=.ref a/\g a o/\o.cls=.type "tuple"/\o.data=.seq vs n/\ds.length<=16777216/\az g ds vs.toList):=rfl
theorem du {g:Addr->Obj->Prop}:az g [] vs=(vs=[]):=rfl
theorem c5 {g:Addr->Obj->Prop}:az g (d::ds) vs=(∃ v r,vs=v::r/\Rep g d v/\az g ds r):=rfl
theorem az.length {g:Addr->Obj->Prop}:∀ {ds:List V}{vs:List Value},az g ds vs->vs.length=ds.length:=by
 intro z0
 induction z0 with
 | nil=>
  intro _ h
  rw[du] at h;subst h;rfl
 | cons d ds ih=>
  intro _ h
  rw[c5] at h
  refine bW h fun v r zz=>b6 zz fun aw O h2=>?_;clear zz;try clear h;subst aw
  simp[ih h2]
theorem az.cons {g:Addr->Obj->Prop}{d:V}{ds:List V}{v:Value}{vs:List Value} (h:Rep g d v) (r:az g ds vs):az g (d::ds) (v::vs):=by
 rw[c5];exact⟨v,vs,rfl,h,r⟩
@[elab_as_elim] theorem az.cE {g:Addr->Obj->Prop}{d:V}{ds:List V}{M:List Value->Prop}{vs:List Value} (h:az g (d::ds) vs) (f:∀ v r,Rep g d v->az g ds r->M (v::r)):M vs:=bW h fun v r z=>b6 z fun q a b=>q ▸ f v r a b
@[elab_as_elim] theorem az.Bm {g:Addr->Obj->Prop}{M:List Value->Prop}{vs:List Value} (h:az g [] vs) (f:M []):M vs:=(show vs=[] from h) ▸ f
theorem az.nil {g:Addr->Obj->Prop}:az g [] []:=by rw[du]
theorem az.get {g:Addr->Obj->Prop}:∀ {ds:List V}{vs:List Value}{i:Nat}{d:V},az g ds vs->ds[i]?=some d->∃ v,vs[i]?=some v/\Rep g d v:=by
 intro z0
 induction z0 with
 | nil=>
  intro _ _ _ _ e
  simp at e
 | cons d ds ih=>
  intro _ i _ h e
  rw[c5] at h
  refine bW h fun v r zz=>b6 zz fun aw h1 h2=>?_;clear zz;try clear h;subst aw
  cases i with
  | zero=>simp at e;subst e;exact⟨v,rfl,h1⟩
  | succ i=>simp at e ⊢;exact ih h2 e
theorem az.append {g:Addr->Obj->Prop}:∀ {ds es:List V}{vs ws:List Value},az g ds vs->az g es ws->az g (ds++es) (vs++ws):=by
 intro z0
 induction z0 with
 | nil=>
  intro _ _ _ h h'
  rw[du] at h;subst h;exact h'
 | cons d ds ih=>
  intro _ _ _ h h'
  rw[c5] at h
  refine bW h fun v r zz=>b6 zz fun aw h1 h2=>?_;clear zz;try clear h;subst aw
  exact az.cons h1 (ih h2 h')
theorem az.drop {g:Addr->Obj->Prop}:∀ {ds:List V}{vs:List Value} (n:Nat),az g ds vs->az g (ds.drop n) (vs.drop n)
 | _,_,0,h=>h
 | [],_,_+1,h=>by rw[du] at h;subst h;exact az.nil
 | d::ds,_,n+1,h=>by
  rw[c5] at h
  refine bW h fun v r zz=>b6 zz fun aw h1 h2=>?_;clear zz;try clear h;subst aw
  exact az.drop n h2
theorem az.take {g:Addr->Obj->Prop}:∀ {ds:List V}{vs:List Value} (n:Nat),az g ds vs->az g (ds.take n) (vs.take n)
 | _,_,0,h=>by simp[du,c5]
 | [],_,_+1,h=>by rw[du] at h;subst h;exact az.nil
 | d::ds,_,n+1,h=>by
  rw[c5] at h
  refine bW h fun v r zz=>b6 zz fun aw h1 h2=>?_;clear zz;try clear h;subst aw
  exact az.cons h1 (az.take n h2)
theorem az.set {g:Addr->Obj->Prop}:∀ {ds:List V}{vs:List Value} (n:Nat) {d:V}{v:Value},az g ds vs->Rep g d v->az g (ds.set n d) (vs.set n v):=by
 intro z0
 induction z0 with
 | nil=>
  intro _ _ _ _ h _
  rw[du] at h;subst h;exact az.nil
 | cons d ds ih=>
  intro _ n _ _ h hd
  rw[c5] at h
  refine bW h fun v r zz=>b6 zz fun aw h1 h2=>?_;clear zz;try clear h;subst aw
  cases n with
  | zero=>exact az.cons hd h2
  | succ n=>exact az.cons h1 (ih n h2 hd)
def uD (o:Obj):Prop:=(∃ vs n,o.data=.seq vs n)∨∃ y n,o.data=.bytearray y n
def book (o:Obj):Prop:=∃ es n,o.data=.dict es n
theorem gU {o:Obj}{vs:Array Value} (h:o.data=.fields vs):¬ book o:=fun ⟨_,_,e⟩=>by rw[h] at e;contradiction
theorem dG {o:Obj}{vs:Array Value}{n:Nat} (h:o.data=.seq vs n):¬ book o:=fun ⟨_,_,e⟩=>by rw[h] at e;contradiction
theorem gA {o:Obj}{y:Array UInt8}{n:Nat} (h:o.data=.bytearray y n):¬ book o:=fun ⟨_,_,e⟩=>by rw[h] at e;contradiction
theorem book.eI {o:Obj} (h:book o):∀ vs,o.data≠.fields vs:=fun vs q=>gU q h
mutual
theorem Rep.mono {g g':Addr->Obj->Prop} (k:∀ a o,g a o->uD o->g' a o):∀ {d:V}{v:Value},Rep g d v->Rep g' d v
 | .none,_,h=>by rw[Kh] at h ⊢;exact h
 | .bool _,_,h=>by rw[Ki] at h ⊢;exact h
 | .int _,_,h=>by rw[Kj] at h ⊢;exact h
 | .str _,_,h=>by rw[RG] at h ⊢;exact h
 | .bytes _,_,h=>by rw[RH] at h ⊢;exact h
 | .cj _,_,h=>by
  rw[RJ] at h ⊢
  refine kR h fun a o y n zz=>iZ zz fun e ho hc r=>?_
  exact⟨a,o,y,n,e,k _ _ ho (.inr ⟨_,_,r.1⟩),hc,r⟩
 | .list ds,_,h=>by
  rw[Bl] at h ⊢
  refine kR h fun a o vs n zz=>DP zz fun e ho hc hd hl r=>?_
  exact⟨a,o,vs,n,e,k _ _ ho (.inl ⟨_,_,hd⟩),hc,hd,hl,az.mono k r⟩
 | .tuple ds,_,h=>by
  rw[RK] at h ⊢
  refine kR h fun a o vs n zz=>DP zz fun e ho hc hd hl r=>?_
  exact⟨a,o,vs,n,e,k _ _ ho (.inl ⟨_,_,hd⟩),hc,hd,hl,az.mono k r⟩
theorem az.mono {g g':Addr->Obj->Prop} (k:∀ a o,g a o->uD o->g' a o):∀ {ds:List V}{vs:List Value},az g ds vs->az g' ds vs
 | [],_,h=>by rw[du] at h ⊢;exact h
 | d::ds,_,h=>by
  rw[c5] at h ⊢
  refine bW h fun v r zz=>b6 zz fun e h1 h2=>?_
  exact⟨v,r,e,Rep.mono k h1,az.mono k h2⟩
end
noncomputable def seen (X:Addr->Prop) (h:Heap):Addr->Obj->Prop:=fun a o=>h.get? a=some o/\¬ X a
noncomputable def plus (X:Addr->Prop) (a:Addr):Addr->Prop:=fun b=>X b∨b=a
theorem Rep.less {X Y:Addr->Prop}{h:Heap}{d:V}{v:Value} (r:Rep (seen X h) d v) (k:∀ a,Y a->X a):Rep (seen Y h) d v:=r.mono fun a o e O=>⟨e.1,fun y=>e.2 (k a y)⟩
theorem az.less {X Y:Addr->Prop}{h:Heap}{d:List V}{v:List Value} (r:az (seen X h) d v) (k:∀ a,Y a->X a):az (seen Y h) d v:=r.mono fun a o e O=>⟨e.1,fun y=>e.2 (k a y)⟩
theorem Rep.drop {X:Addr->Prop}{h:Heap}{a:Addr}{d:V}{v:Value} (r:Rep (seen (plus X a) h) d v):Rep (seen X h) d v:=r.less fun O x=>.inl x
theorem az.drop' {X:Addr->Prop}{h:Heap}{a:Addr}{d:List V}{v:List Value} (r:az (seen (plus X a) h) d v):az (seen X h) d v:=r.less fun O x=>.inl x
theorem Rep.fresh {X:Addr->Prop}{h:Heap}{a:Addr}{d:V}{v:Value} (r:Rep (seen X h) d v) (n:h.get? a=none):Rep (seen (plus X a) h) d v:=
 r.mono fun b o e O=>⟨e.1,fun q=>q.elim e.2 fun q=>by have e1:=e.1;rw[q,n] at e1;contradiction⟩
theorem az.fresh {X:Addr->Prop}{h:Heap}{a:Addr}{d:List V}{v:List Value} (r:az (seen X h) d v) (n:h.get? a=none):az (seen (plus X a) h) d v:=
 r.mono fun b o e O=>⟨e.1,fun q=>q.elim e.2 fun q=>by have e1:=e.1;rw[q,n] at e1;contradiction⟩
def Kept (base h h':Heap):Prop:=
 ∀ b o,h.get? b=some o->h'.get? b=some o∨(base.get? b=none/\book o/\(∀ vs,o.data≠.fields vs)/\∃ sl,h'.get? b=some { o with slots:=sl })
theorem Kept.refl (base h:Heap):Kept base h h:=fun O O e=>.inl e
theorem Kept.trans {base aj aE bG:Heap} (x:Kept base aj aE) (y:Kept base aE bG):Kept base aj bG:=fun b o e=>by
 rcases x b o e with e₁ | ⟨n,c,f,sl,e₁⟩
 ·exact y b o e₁
 ·rcases y b _ e₁ with bM | ⟨_,_,_,Iv,bM⟩
  ·exact .inr ⟨n,c,f,sl,bM⟩
  ·exact .inr ⟨n,c,f,Iv,bM⟩
theorem Kept.of_keeps {base h h':Heap} (k:∀ b o,h.get? b=some o->h'.get? b=some o):Kept base h h':=fun b o e=>.inl (k b o e)
theorem Kept.push (base h:Heap) (o:Obj):Kept base h (h.push o):=.of_keeps fun O O e=>Heap.get?_push_of_some o e
theorem Kept.get {base h h':Heap} (k:Kept base h h') {b:Addr}{o:Obj} (e:h.get? b=some o) (hc:¬ book o):h'.get? b=some o:=by
 rcases k b o e with e | ⟨_,c,_⟩
 ·exact e
 ·exact absurd c hc
theorem Kept.same {base h h':Heap} (k:Kept base h h') {b:Addr}{o:Obj} (e:h.get? b=some o):∃ o',h'.get? b=some o'/\o'.data=o.data/\o'.cls=o.cls:=by
 rcases k b o e with e | ⟨_,_,_,sl,e⟩
 ·exact⟨_,e,rfl,rfl⟩
 ·exact⟨_,e,rfl,rfl⟩
theorem Kept.ns {base h h':Heap} (k:Kept base h h') {a:Addr}{m:Str->Option Value} (n:h.Ns a m):h'.Ns a m:=by
 refine eR n fun o es ep zz=>b6 zz fun ho hd r=>?_
 refine Exists.elim (k.same ho) fun o' zz=>b6 zz fun lB kF O=>?_
 exact⟨o',es,ep,lB,kF.trans hd,r⟩
theorem Kept.cell {base h h':Heap} (k:Kept base h h') {a:Addr}{v:Option Value} (n:h.IsCell a v):h'.IsCell a v:=by
 refine Exists.elim n fun o zz=>aC zz fun ho hd=>?_
 refine Exists.elim (k.same ho) fun o' zz=>b6 zz fun lB kF O=>?_
 exact⟨o',lB,kF.trans hd⟩
theorem Kept.stays {base h h':Heap} (k:Kept base h h') (s:base.StaysIn h):base.StaysIn h':=fun b o e=>by
 rcases k b o (s b o e) with e' | ⟨n,_⟩
 ·exact e'
 ·rw[e] at n;contradiction
theorem b8 {o:Obj} (s:uD o):¬ book o:=by
 rcases s with ⟨_,_,c⟩ | ⟨_,_,c⟩
 ·exact dG c
 ·exact gA c
theorem Kept.seen {base h h':Heap} (k:Kept base h h') {X:Addr->Prop}:∀ a o,seen X h a o->uD o->Mine.Internal.seen X h' a o:=fun a o e s=>⟨k.get e.1 (b8 s),e.2⟩
theorem Kept.rep {base h h':Heap} (k:Kept base h h') {X:Addr->Prop}{d:V}{v:Value} (r:Rep (Mine.Internal.seen X h) d v):Rep (Mine.Internal.seen X h') d v:=r.mono k.seen
theorem Kept.kb {base h h':Heap} (k:Kept base h h') {X:Addr->Prop}{d:List V}{v:List Value} (r:az (Mine.Internal.seen X h) d v):az (Mine.Internal.seen X h') d v:=r.mono k.seen
inductive Chain (h:Heap):Nat->Addr->Prop
 | last {a:Addr}{o:Obj}{vs:Array Value}:h.get? a=some o->¬ book o->o.cls≠.type "traceback"->o.data=.fields vs->vs[2]?=some .none->Chain h 0 a
 | more {n:Nat}{a b:Addr}{o:Obj}{vs:Array Value}:h.get? a=some o->¬ book o->o.cls≠.type "traceback"->o.data=.fields vs->vs[2]?=some (.ref b)->Chain h n b->Chain h (n+1) a
theorem Chain.keeps {h h':Heap}{n:Nat}{a:Addr} (c:Chain h n a) (k:∀ m b o,m<=n->Chain h m b->h.get? b=some o->¬ book o->o.cls≠.type "traceback"->h'.get? b=some o):Chain h' n a:=by
 induction c with
 | last e hf ht hd h2=>exact .last (k _ _ _ (Nat.le_refl _) (.last e hf ht hd h2) e hf ht) hf ht hd h2
 | more e hf ht hd h2 c ih=>exact .more (k _ _ _ (Nat.le_refl _) (.more e hf ht hd h2 c) e hf ht) hf ht hd h2 (ih fun m b o hb=>k m b o (Nat.le_succ_of_le hb))
theorem Chain.kept {base h h':Heap}{n:Nat}{a:Addr} (c:Chain h n a) (k:Kept base h h'):Chain h' n a:=c.keeps fun O O O O O e n O=>k.get e n
theorem Chain.uniq {h:Heap}{n:Nat}{a:Addr} (c:Chain h n a):∀ {m:Nat},Chain h m a->n=m:=by
 induction c with
 | last e hf ht hd h2=>
  intro m c'
  cases c' with
  | last=>rfl
  | more e' _ _ kF pH _=>
   rw[e] at e';obtain rfl:=Option.some.inj e'
   rw[hd] at kF;obtain rfl:=Data.fields.inj kF
   rw[h2] at pH;cases pH
 | more e hf ht hd h2 c ih=>
  intro m c'
  cases c' with
  | last e' _ _ kF pH=>
   rw[e] at e';obtain rfl:=Option.some.inj e'
   rw[hd] at kF;obtain rfl:=Data.fields.inj kF
   rw[h2] at pH;cases pH
  | more e' _ _ kF pH c'=>
   rw[e] at e';obtain rfl:=Option.some.inj e'
   rw[hd] at kF;obtain rfl:=Data.fields.inj kF
   rw[h2] at pH;obtain rfl:=Value.ref.inj (Option.some.inj pH)
   rw[ih c']
theorem Chain.get {h:Heap}{n:Nat}{a:Addr} (c:Chain h n a):∃ o vs v,h.get? a=some o/\¬ book o/\o.cls≠.type "traceback"/\o.data=.fields vs/\vs[2]?=some v/\
  ((v=.none/\n=0)∨∃ b m,v=.ref b/\n=m+1/\Chain h m b):=by
 cases c with
 | last e hf ht hd h2=>exact⟨_,_,_,e,hf,ht,hd,h2,.inl ⟨rfl,rfl⟩⟩
 | more e hf ht hd h2 c=>exact⟨_,_,_,e,hf,ht,hd,h2,.inr ⟨_,_,rfl,rfl,c⟩⟩
def ExcAt (tr:Bool) (h₀:Heap) (c:Value) (e:Addr) (h:Heap):Prop:=
 h₀.get? e=none/\(∃ n,Chain h n e)/\∃ oe vs,h.get? e=some oe/\oe.cls=c/\oe.data=.fields vs/\
  ((tr=false/\vs[1]?=some .none)∨∃ T oT ts f,vs[1]?=some (.ref T)/\h₀.get? T=none/\h.get? T=some oT/\oT.cls=.type "traceback"/\oT.data=.fields ts/\ts[3]?=some f)
theorem ExcAt.weak {tr:Bool}{h₀ h:Heap}{c:Value}{e:Addr} (x:ExcAt tr h₀ c e h):ExcAt false h₀ c e h:=by
 obtain⟨a,b,oe,vs,h1,h2,h3,h4⟩:=x
 refine⟨a,b,oe,vs,h1,h2,h3,?_⟩
 rcases h4 with ⟨_,e⟩ | r
 ·exact .inl ⟨rfl,e⟩
 ·exact .inr r
theorem Kept.missing {base h h':Heap} (k:Kept base h h') {b:Addr} (e:h'.get? b=none):h.get? b=none:=by
 cases q:h.get? b with
 | none=>rfl
 | some o=>
  refine Exists.elim (k.same q) fun o' zz=>aC zz fun e' O=>?_
  rw[e] at e';contradiction
theorem ExcAt.elder {tr:Bool}{base h₀ aj h:Heap}{c:Value}{e:Addr} (x:ExcAt tr aj c e h) (k:Kept base h₀ aj):ExcAt tr h₀ c e h:=by
 obtain⟨a,b,oe,vs,h1,h2,h3,h4⟩:=x
 refine⟨k.missing a,b,oe,vs,h1,h2,h3,?_⟩
 rcases h4 with r | ⟨T,oT,ts,f,q1,q2,q3⟩
 ·exact .inl r
 ·exact .inr ⟨T,oT,ts,f,q1,k.missing q2,q3⟩
noncomputable def Frames (base h:Heap):List Env->Prop
 | []=>True
 | env::r=>env.scope.kind≠.module/\(∃ L o,env.frame=some L/\base.get? L=none/\h.get? L=some o/\book o/\∀ vs,o.data≠.fields vs)/\Frames base h r
theorem Frames.fun {base h:Heap}:∀ {l:List Env},Frames base h l->h.FunFrames base l:=by
 intro z0
 induction z0 with
 | nil=>
  exact fun O=>trivial
 | cons _ _ ih=>
  exact fun ⟨hk,⟨L,o,hf,hn,ho,_,hd⟩,hr⟩=>⟨hk,⟨L,o,hf,hn,ho,hd⟩,(ih hr)⟩
theorem Frames.kept {base h h':Heap} (k:Kept base h h'):∀ {l:List Env},Frames base h l->Frames base h' l:=by
 intro z0
 induction z0 with
 | nil=>
  exact fun O=>trivial
 | cons _ _ ih=>
  exact fun ⟨hk,⟨L,o,hf,hn,ho,hc,hd⟩,hr⟩=>
   let ⟨o',e',kF,NP⟩:=k.same ho
   ⟨hk,⟨L,o',hf,hn,e',hc.imp fun O=>Exists.imp fun O q=>kF.trans q,fun vs q=>hd vs (kF ▸ q)⟩,(ih hr)⟩
theorem Frames.mem {base h:Heap}:∀ {l:List Env},Frames base h l->∀ {b:Addr},b∈l.filterMap (·.frame)->base.get? b=none/\∃ o,h.get? b=some o/\book o/\∀ vs,o.data≠.fields vs
 | env::r,⟨_,⟨L,o,hf,hn,ho,hc,hd⟩,hr⟩,b,hb=>by
  rw[List.filterMap_cons,hf] at hb
  rcases List.mem_cons.mp hb with e | hb
  ·subst e;exact⟨hn,o,ho,hc,hd⟩
  ·exact Frames.mem hr hb
theorem Frames.slots {base h h':Heap}{l:List Env} (f:Frames base h l) (x:Heap.SlotsOnly (l.filterMap (·.frame)) h h'):Kept base h h':=fun b o e=>by
 by_cases hb:b∈l.filterMap (·.frame)
 ·obtain⟨hn,o',ho,hc,hd⟩:=f.mem hb
  rw[e] at ho
  obtain rfl:=Option.some.inj ho
  obtain⟨sl,hs⟩:=x.2.2 b o e
  exact .inr ⟨hn,hc,hd,sl,hs⟩
 ·exact .inl ((x.2.1 b hb).trans e)
def cW (base h₀ h h':Heap):Prop:=
 ∀ b o,h.get? b=some o->((∀ vs,o.data≠.fields vs)∨h₀.get? b≠none)->h'.get? b=some o∨(base.get? b=none/\book o/\(∀ vs,o.data≠.fields vs)/\∃ sl,h'.get? b=some { o with slots:=sl })
theorem Kept.n {base h₀ h h':Heap} (k:Kept base h h'):cW base h₀ h h':=fun b o e O=>k b o e
theorem cW.trans {base h₀ aj aE bG:Heap} (x:cW base h₀ aj aE) (y:cW base h₀ aE bG):cW base h₀ aj bG:=fun b o e q=>by
 rcases x b o e q with e₁ | ⟨n,c,f,sl,e₁⟩
 ·exact y b o e₁ q
 ·rcases y b _ e₁ q with bM | ⟨_,_,_,Iv,bM⟩
  ·exact .inr ⟨n,c,f,sl,bM⟩
  ·exact .inr ⟨n,c,f,Iv,bM⟩
theorem Kept.after {base h₀ h h':Heap} (k:Kept base h₀ h) (n:cW base h₀ h h'):Kept base h₀ h':=fun b o e=>by
 have hn:h₀.get? b≠none:=by rw[e];intro q;contradiction
 rcases k b o e with e₁ | ⟨n₁,c,f,sl,e₁⟩
 ·exact n b o e₁ (.inr hn)
 ·rcases n b _ e₁ (.inr hn) with bM | ⟨_,_,_,Iv,bM⟩
  ·exact .inr ⟨n₁,c,f,sl,bM⟩
  ·exact .inr ⟨n₁,c,f,Iv,bM⟩
theorem cW.get {base h₀ h h':Heap} (k:cW base h₀ h h') {b:Addr}{o:Obj} (e:h.get? b=some o) (hc:¬ book o) (hd:∀ vs,o.data≠.fields vs):h'.get? b=some o:=by
 rcases k b o e (.inl hd) with e | ⟨_,c,_⟩
 ·exact e
 ·exact absurd c hc
theorem cW.same {base h₀ h h':Heap} (k:cW base h₀ h h') {b:Addr}{o:Obj} (e:h.get? b=some o) (hd:∀ vs,o.data≠.fields vs):∃ o',h'.get? b=some o'/\o'.data=o.data/\o'.cls=o.cls:=by
 rcases k b o e (.inl hd) with e | ⟨_,_,_,sl,e⟩
 ·exact⟨_,e,rfl,rfl⟩
 ·exact⟨_,e,rfl,rfl⟩
theorem Frames.uE {base h₀ h h':Heap} (k:cW base h₀ h h'):∀ {l:List Env},Frames base h l->Frames base h' l:=by
 intro z0
 induction z0 with
 | nil=>
  exact fun O=>trivial
 | cons _ _ ih=>
  exact fun ⟨hk,⟨L,o,hf,hn,ho,hc,hd⟩,hr⟩=>
   let ⟨o',e',kF,NP⟩:=k.same ho hd
   ⟨hk,⟨L,o',hf,hn,e',hc.imp fun O=>Exists.imp fun O q=>kF.trans q,fun vs q=>hd vs (kF ▸ q)⟩,(ih hr)⟩
section
variable {M:Model}{A:Around}{E:Value->Shared->Prop}{s:Shared}{base h₀:Heap}
theorem fx {e:Addr}{c:Value}{fr:Option Addr}{Q:Unit->Shared->Prop}{tr:Bool} (hx:ExcAt tr h₀ c e s.heap)
  (hQ:∀ h',cW base h₀ s.heap h'->ExcAt tr h₀ c e h'->Q () { s with heap:=h' }):wpAny M A (setFlight (.ref e) fr) Q E s:=by
 obtain⟨au,⟨n,A6⟩,oe,vs,he,hc,hd,ht⟩:=hx
 unfold setFlight
 rcases ht with ⟨Ou,h1⟩ | ⟨T,oT,ts,f,h1,Tc,hT,Ql,Ov,h3⟩
 ·refine wpAny_bind (wpAny_field he hd h1 ?_)
  rw[if_neg (by decide)]
  exact wpAny_pure (hQ _ (Kept.refl _ _).n ⟨au,⟨n,A6⟩,oe,vs,he,hc,hd,.inl ⟨Ou,h1⟩⟩)
 ·refine wpAny_bind (wpAny_field he hd h1 ?_)
  rw[if_pos (show (Value.ref T != Value.none)=true from by simp)]
  refine wpAny_setField hT Ov (Array.getElem?_eq_some_iff.mp h3).1 ?_
  have Up:T≠e:=fun q=>by
   refine eR A6.get fun o O O zz=>iZ zz fun e' O nt O=>?_
   rw[q,e'] at hT;obtain rfl:=Option.some.inj hT;exact nt Ql
  have gk:=Obj.data_mapFields Ov (·.setIfInBounds 3 (fr.elim Value.none fun f=>rawInt f))
  have Kk:=Heap.get?_update_self (Obj.mapFields (·.setIfInBounds 3 (fr.elim Value.none fun f=>rawInt f))) hT (Obj.isFreed_of_fields gk)
  have other:∀ b,b≠T->(s.heap.update T (Obj.mapFields (·.setIfInBounds 3 (fr.elim Value.none fun f=>rawInt f)))).get? b=s.heap.get? b:=fun b hb=>Heap.get?_update_other _ _ (Ne.symm hb)
  refine hQ _ (fun b o hb hq=>.inl ((other b fun q=>?_).trans hb)) ⟨au,⟨n,?_⟩,oe,vs,(other e (Ne.symm Up)).trans he,hc,hd,.inr ⟨T,_,_,_,h1,Tc,Kk,(Obj.cls_mapFields _ _).trans Ql,gk,Array.getElem?_setIfInBounds_self_of_lt (Array.getElem?_eq_some_iff.mp h3).1⟩⟩
  ·subst q
   rw[hT] at hb;obtain rfl:=Option.some.inj hb
   rcases hq with hq | hq
   ·exact hq ts Ov
   ·exact hq Tc
  ·exact A6.keeps fun O b o O O e O nt=>(other b fun q=>by rw[q,hT] at e;obtain rfl:=Option.some.inj e;exact nt Ql).trans e
theorem iF {env:Env}{outer:List Env}{L e:Addr}{c:Value}{Q:Unit->Shared->Prop}{tr:Bool}
  (yv:A.frames=some (env::outer)) (hl:Frames base s.heap (env::outer)) (hf:env.frame=some L) (hx:ExcAt tr h₀ c e s.heap) (hk:Kept base h₀ s.heap)
  (hQ:∀ h',cW base h₀ s.heap h'->ExcAt true h₀ c e h'->Q () { s with heap:=h' }):wpAny M A (noteFrame (.ref e) env) Q E s:=by
 have Ow:∀ (s:Shared) (head:Value) (b:Bool) (Q:Unit->Shared->Prop),Frames base s.heap (env::outer)->Kept base h₀ s.heap->
   (h₀.get? e=none/\(∃ n,Chain s.heap n e)/\∃ oe vs,s.heap.get? e=some oe/\oe.cls=c/\oe.data=.fields vs/\1<vs.size)->
   (∀ h',cW base h₀ s.heap h'->ExcAt true h₀ c e h'->Q () { s with heap:=h' })->
   wpAny M A (do let a <- frameOf env;let pl <- entryPlaceOf L b;let t <- EntryCells.newEntry head a .none (rawInt L) .none pl;setField (.ref e) 1 t) Q E s:=by
  intro s head b Q hl hk ⟨au,⟨n,A6⟩,oe,vs,he,hc,hd,ka⟩ hQ
  refine wpAny_bind (wpAny_frameOf_fun yv hl.fun hf fun aj Kl=>?_)
  have k₁:=hl.slots Kl
  refine wpAny_bind (wpAny_entryPlaceOf fun pl zv=>?_)
  unfold EntryCells.newEntry newFields
  refine wpAny_bind (wpAny_newObj_type ?_ (zv.sizeOk5 _ _ _ _ _))
  have ZF:¬ book oe:=by
   refine eR A6.get fun o O O zz=>b6 zz fun e' nf O=>?_
   rw[he] at e';obtain rfl:=Option.some.inj e';exact nf
  have Qm:=k₁.get he ZF
  have Qn:=Heap.get?_push_of_some (h:=aj) { cls:=.type "traceback",dict:=none,data:=.fields ([head,.ref L,.none,rawInt L,.none]++(if pl.isEmpty then List.replicate 6 Value.none else pl)).toArray } Qm
  refine wpAny_setField Qn hd ka ?_
  have Up:aj.objs.size≠e:=Nat.ne_of_gt (Heap.lt_size Qm)
  have gk:=Obj.data_mapFields hd (·.setIfInBounds 1 (Value.ref aj.objs.size))
  have uF:=Heap.get?_update_self (Obj.mapFields (·.setIfInBounds 1 (Value.ref aj.objs.size))) Qn (Obj.isFreed_of_fields gk)
  have Kk:=(Heap.get?_update_other (aj.push { cls:=.type "traceback",dict:=none,data:=.fields ([head,.ref L,.none,rawInt L,.none]++(if pl.isEmpty then List.replicate 6 Value.none else pl)).toArray })
   (Obj.mapFields (·.setIfInBounds 1 (Value.ref aj.objs.size))) (Ne.symm Up)).trans (Heap.get?_push_size aj rfl)
  have keep:∀ b o,b≠e->aj.get? b=some o->((aj.push { cls:=.type "traceback",dict:=none,data:=.fields ([head,.ref L,.none,rawInt L,.none]++(if pl.isEmpty then List.replicate 6 Value.none else pl)).toArray }).update e (Obj.mapFields (·.setIfInBounds 1 (Value.ref aj.objs.size)))).get? b=some o:=
   fun b o Td hb=>by
    rw[Heap.get?_update_other _ _ (Ne.symm Td)]
    exact Heap.get?_push_of_some _ hb
  refine hQ _ (fun b o hb hq=>?_) ⟨au,⟨n,?_⟩,_,_,uF,(Obj.cls_mapFields _ _).trans hc,gk,.inr ⟨aj.objs.size,_,_,rawInt L,by simp[ka],hk.missing ?_,Kk,rfl,rfl,by first | (simp;done) | (rcases zv with rfl | ⟨_,_,_,_,_,_,_,rfl⟩<;>simp;done)⟩⟩
  ·have Td:b≠e:=fun q=>by
    subst q
    rw[he] at hb;obtain rfl:=Option.some.inj hb
    rcases hq with hq | hq
    ·exact hq vs hd
    ·exact hq au
   rcases k₁ b o hb with e₁ | ⟨n,c,f,sl,e₁⟩
   ·exact .inl (keep b o Td e₁)
   ·exact .inr ⟨n,c,f,sl,keep b _ Td e₁⟩
  ·refine eR A6.get fun o ZG v zz=>DP zz fun e' nf nt kF h2 hr=>?_
   rw[he] at e';obtain rfl:=Option.some.inj e'
   rw[hd] at kF;obtain rfl:=Data.fields.inj kF
   have pH:(vs.setIfInBounds 1 (Value.ref aj.objs.size))[2]?=some v:=by rw[Array.getElem?_setIfInBounds_ne (by decide)];exact h2
   rcases hr with ⟨rfl,rfl⟩ | ⟨b,m,rfl,rfl,ch⟩
   ·exact .last uF (gU gk) (by rw[Obj.cls_mapFields];exact nt) gk pH
   ·refine .more uF (gU gk) (by rw[Obj.cls_mapFields];exact nt) gk pH (ch.keeps fun m' b' o Dj c' e' hf O=>keep b' o (fun q=>?_) (k₁.get e' hf))
    subst q
    have:=A6.uniq c'
    lia
  ·cases q:s.heap.get? aj.objs.size with
   | none=>rfl
   | some o=>
    refine Exists.elim (k₁.same q) fun o' zz=>aC zz fun e' O=>?_
    exact absurd (Heap.lt_size e') (Nat.lt_irrefl _)
 obtain⟨au,⟨n,A6⟩,oe,vs,he,hc,hd,ht⟩:=hx
 unfold noteFrame
 simp only[hf]
 rcases ht with ⟨Ou,h1⟩ | ⟨T,oT,ts,f,h1,Tc,hT,Ql,Ov,h3⟩
 ·refine wpAny_bind (wpAny_field he hd h1 ?_)
  rw[if_neg (by decide)]
  exact Ow s _ _ _ hl hk ⟨au,⟨n,A6⟩,oe,vs,he,hc,hd,(Array.getElem?_eq_some_iff.mp h1).1⟩ hQ
 ·refine wpAny_bind (wpAny_field he hd h1 ?_)
  rw[if_pos (show (Value.ref T != Value.none)=true from by simp)]
  refine wpAny_bind (wpAny_field hT Ov h3 ?_)
  by_cases hfl:(f == rawInt L)=true
  ·rw[if_pos hfl]
   exact wpAny_pure (hQ _ (Kept.refl _ _).n ⟨au,⟨n,A6⟩,oe,vs,he,hc,hd,.inr ⟨T,oT,ts,f,h1,Tc,hT,Ql,Ov,h3⟩⟩)
  ·rw[if_neg hfl]
   refine wpAny_bind (wpAny_setField hT Ov (Array.getElem?_eq_some_iff.mp h3).1 ?_)
   have Up:e≠T:=fun q=>by
    refine eR A6.get fun o O O zz=>iZ zz fun e' O nt O=>?_
    rw[<- q,e'] at hT;obtain rfl:=Option.some.inj hT;exact nt Ql
   have other:∀ b,b≠T->(s.heap.update T (Obj.mapFields (·.setIfInBounds 3 Value.none))).get? b=s.heap.get? b:=fun b hb=>Heap.get?_update_other _ _ (Ne.symm hb)
   have kn:cW base h₀ s.heap (s.heap.update T (Obj.mapFields (·.setIfInBounds 3 Value.none))):=fun b o hb hq=>.inl ((other b fun q=>by
    subst q
    rw[hT] at hb;obtain rfl:=Option.some.inj hb
    rcases hq with hq | hq
    ·exact hq ts Ov
    ·exact hq Tc).trans hb)
   refine Ow { s with heap:=s.heap.update T (Obj.mapFields (·.setIfInBounds 3 Value.none)) } _ _ _ (hl.uE kn) (hk.after kn) ⟨au,⟨n,A6.keeps fun O b o O O e O nt=>(other b fun q=>by rw[q,hT] at e;obtain rfl:=Option.some.inj e;exact nt Ql).trans e⟩,oe,vs,(other e Up).trans he,hc,hd,(Array.getElem?_eq_some_iff.mp h1).1⟩ fun h' k' x'=>hQ h' (kn.trans k') x'
end
theorem kG:entryFor table "proto.unchain"=some Builtin.«proto.unchain»:=entryFor_of_tree (by kernel_rfl)
theorem kJ:plainId "proto.unchain"=true:=by decide +kernel
inductive Path (h:Heap):Addr->Addr->Prop
 | refl (a:Addr):Path h a a
 | step {a b c:Addr}{o:Obj}{vs:Array Value}:h.get? a=some o->o.data=.fields vs->vs[2]?=some (.ref b)->Path h b c->Path h a c
theorem Path.snoc {h:Heap}{a b c:Addr}{o:Obj}{vs:Array Value} (p:Path h a b) (e:h.get? b=some o) (hd:o.data=.fields vs) (h2:vs[2]?=some (.ref c)):Path h a c:=by
 induction p with
 | refl a=>exact .step e hd h2 (.refl _)
 | step e' kF pH _ ih=>exact .step e' kF pH (ih e)
section
variable {prog:Program}{w:World}{A:Around}{E:Value->Shared->Prop}
theorem Bn {base h₀:Heap}{e:Addr}{s:Shared}{R:Result->Shared->Prop} (k:Kept base h₀ s.heap) (hn:h₀.get? e=none) (hR:R (.ok (.ret .none)) s) :
  ∀ {n:Nat}{a:Addr},Chain h₀ n a->∀ (slow:Addr) (b:Bool),Path s.heap slow a->
  codeAny (model prog w) A (.builtin "proto.unchain" ⟨[.ref e,.ref a,.ref slow,.bool b],[]⟩) R s:=by
 intro n a c
 induction c with
 | @last a o vs e0 hf ht hd h2=>
  intro slow b p
  have e1:=k.get e0 hf
  refine codeAny_builtin kG ?_
  unfold Builtin.«proto.unchain»
  show wpAny _ _ (field (.ref a) 2 >>= _) _ _ s
  refine wpAny_bind (wpAny_field e1 hd h2 ?_)
  rw[if_pos (by decide)]
  exact wpAny_pure hR
 | @more n a b' o vs e0 hf ht hd h2 c ih=>
  intro slow b p
  have e1:=k.get e0 hf
  refine codeAny_builtin kG ?_
  unfold Builtin.«proto.unchain»
  show wpAny _ _ (field (.ref a) 2 >>= _) _ _ s
  refine wpAny_bind (wpAny_field e1 hd h2 ?_)
  have Td:b'≠e:=fun q=>by
   refine eR c.get fun O O O zz=>aC zz fun eb O=>?_
   rw[q,hn] at eb;contradiction
  rw[if_neg (show ¬ (Value.ref b' == Value.none)=true from by simp)]
  rw[if_neg (show ¬ (Value.ref b' == Value.ref e)=true from by simp;exact Td)]
  by_cases hs:(Value.ref b' == Value.ref slow)=true
  ·rw[if_pos hs]
   exact wpAny_bind (wpAny_rule (wpAny_pure hR))
  ·rw[if_neg hs]
   cases b with
   | false=>
    refine wpAny_bind (wpAny_pure ?_)
    exact wpAny_pure ⟨plainId_quiet kJ _,ih slow true (p.snoc e1 hd h2)⟩
   | true=>
    have q:∃ Ox pJ Dk,s.heap.get? slow=some pJ/\pJ.data=.fields Dk/\Dk[2]?=some (.ref Ox)/\Path s.heap Ox b':=by
     cases p with
     | refl=>exact⟨_,_,_,e1,hd,h2,.refl _⟩
     | step e' kF pH p'=>exact⟨_,_,_,e',kF,pH,p'.snoc e1 hd h2⟩
    refine eR q fun Ox pJ Dk zz=>iZ zz fun q1 q2 q3 q4=>?_
    refine wpAny_bind (wpAny_field q1 q2 q3 ?_)
    exact wpAny_pure ⟨plainId_quiet kJ _,ih Ox false q4⟩
def cB (A:Around) (h₀:Heap):Prop:=A.handled=none∨∃ a n,A.handled=some (.ref a)/\Chain h₀ n a
theorem jv {α:Type}{base h₀:Heap}{s:Shared}{e:Addr}{o:Obj}{vs:Array Value}{c:Value}{Q:α->Shared->Prop}
  (hh:cB A h₀) (k:Kept base h₀ s.heap)
  (he:s.heap.get? e=some o) (hc:o.cls=c) (hf:c≠.type "frame") (ht:c≠.type "traceback") (hd:o.data=.fields vs) (h1:vs[1]?=some .none) (h2:vs[2]?=some .none) (hn:h₀.get? e=none)
  (hE:∀ h',(∀ b o',b≠e->s.heap.get? b=some o'->h'.get? b=some o')->ExcAt false h₀ c e h'->E (.ref e) { s with heap:=h' }) :
  wpAny (model prog w) A (raiseNew (.ref e):Sem α) Q E s:=by
 unfold raiseNew
 refine wpAny_bind (wpAny_handled ?_)
 rcases hh with hh | ⟨a,n,hh,ch⟩
 ·rw[hh]
  refine wpAny_bind (wpAny_pure (wpAny_throw (hE _ (fun O O O q=>q) ⟨hn,⟨0,.last he (gU hd) (hc ▸ ht) hd h2⟩,o,vs,he,hc,hd,.inl ⟨rfl,h1⟩⟩)))
 ·rw[hh]
  have ZI:a≠e:=fun q=>by
   refine eR ch.get fun O O O zz=>aC zz fun eb O=>?_
   rw[q,hn] at eb;contradiction
  have au:(Value.ref a != Value.ref e)=true:=by simp;exact ZI
  dsimp only
  rw[if_pos au]
  refine wpAny_bind (wpAny_holding (wpAny_runValue ?_))
  refine Bn k hn ?_ ch a false (.refl _)
  show wpAny _ _ (setField (.ref e) 2 (.ref a) >>= _) _ _ _
  refine wpAny_bind ?_
  have ka:2<vs.size:=(Array.getElem?_eq_some_iff.mp h2).1
  refine wpAny_setField he hd ka ?_
  have gk:=Obj.data_mapFields hd (·.setIfInBounds 2 (Value.ref a))
  have uF:=Heap.get?_update_self (Obj.mapFields (·.setIfInBounds 2 (Value.ref a))) he (Obj.isFreed_of_fields gk)
  have other:∀ b,b≠e->(s.heap.update e (Obj.mapFields (·.setIfInBounds 2 (Value.ref a)))).get? b=s.heap.get? b:=fun b hb=>Heap.get?_update_other _ _ (Ne.symm hb)
  refine wpAny_throw (hE _ (fun b o' hb q=>(other b hb).trans q) ⟨hn,⟨n+1,.more uF (gU gk) (by rw[Obj.cls_mapFields,hc];exact ht) gk (by rw[Array.getElem?_setIfInBounds_self_of_lt ka]) ?_⟩,_,_,uF,(Obj.cls_mapFields _ _).trans hc,gk,.inl ⟨rfl,?_⟩⟩)
  ·refine ch.keeps fun m b o O c' q nf O=>(other b fun q'=>?_).trans (k.get q nf)
   rw[q',hn] at q;contradiction
  ·rw[Array.getElem?_setIfInBounds_ne (by decide)];exact h1
theorem cB.kept {base h h':Heap} (x:cB A h) (k:Kept base h h'):cB A h':=by
 rcases x with x | ⟨a,n,x,c⟩
 ·exact .inl x
 ·exact .inr ⟨a,n,x,c.kept k⟩
theorem lC {base h₀:Heap}{s:Shared}{e:Addr}{o:Obj}{t:Value}{c:Value}{Q:Flow->Shared->Prop} (hh:cB A h₀) (k:Kept base h₀ s.heap)
  (he:s.heap.get? e=some o) (hc:o.cls=c) (hf:c≠.type "frame") (ht:c≠.type "traceback") (hd:o.data=.fields #[t,.none,.none,.none,.bool false,.none]) (hn:h₀.get? e=none)
  (hE:∀ h',Kept base h₀ h'->cW base h₀ s.heap h'->ExcAt false h₀ c e h'->E (.ref e) { s with heap:=h' }) :
  wpAny (model prog w) A (do setFlight (.ref e) none;raiseNew (.ref e)) Q E s:=by
 unfold setFlight
 refine wpAny_bind (wpAny_bind (wpAny_field (i:=1) (x:=Value.none) he hd rfl ?_))
 rw[if_neg (by decide)]
 refine wpAny_pure (jv hh k he hc hf ht hd rfl rfl hn fun h' hk hx=>?_)
 have kn:cW base h₀ s.heap h':=fun b o' q hq=>.inl (hk b o' (fun q'=>by
  subst q'
  rw[he] at q;obtain rfl:=Option.some.inj q
  rcases hq with hq | hq
  ·exact hq _ hd
  ·exact hq hn) q)
 exact hE h' (k.after kn) kn hx
theorem kK {base h₀:Heap}{env:Env}{s:Shared}{X N I:String}{x:Str}{np pos:Pos}{Q:Flow->Shared->Prop} (hh:cB A h₀) (k:Kept base h₀ s.heap) (hc:ExcClass X N I)
  (De:isSubtype (.type X) (.type X)=pure true) (hf:X≠"frame") (ht:X≠"traceback")
  (hx:wpAny (model prog w) A (eval (.Name x np) env) (fun v s₁=>v=.type X/\s₁=s) E s)
  (h:∀ h' e tk,Kept base h₀ h'->cW base h₀ s.heap h'->ExcAt false h₀ (.type X) e h'->E (.ref e) { s with heap:=h',toks:=tk }) :
  wpAny (model prog w) A (exec (.Raise (some (.Name x np)) none pos) env) Q E s:=by
 show wpAny (model prog w) A (do standAt pos;raiseStmt env (some (do let v <- eval (.Name x np) env;standAt pos;pure v)) none) Q E s
 refine wpAny_bind (wpAny_standAt ?_)
 unfold raiseStmt
 dsimp only
 refine wpAny_bind (wpAny_bind (wpAny_mono hx (fun v s₁ aj=>wpAny_bind (wpAny_standAt (wpAny_pure ?_))) fun O O e=>e))
 refine aC aj fun aw Kl=>?_;try clear aj;subst aw
 subst s₁
 refine wpAny_bind (wpAny_pure ?_)
 dsimp only
 refine wpAny_bind (wpAny_holding ?_)
 unfold excFromValue isExcClass
 refine wpAny_bind (wpAny_bind (wpAny_pure ?_))
 simp only[if_true]
 rw[hc.base]
 refine wpAny_pure ?_
 simp only[if_true]
 refine wpAny_bind (call_exc hc fun h' e hn=>?_)
 refine bW hn.there fun ob t zz=>b6 zz fun he Uq hd=>?_
 have hT:({ s with heap:=h' }:Shared).TypeIs (.ref e) X:=⟨ob,he,Uq⟩
 refine wpAny_bind (wpAny_isInstance hT hc.base ?_)
 simp only[Bool.not_true,Bool.false_eq_true,if_false]
 refine wpAny_pure ?_
 refine wpAny_bind (m:=isType (.type X)) (wpAny_pure ?_)
 rw[if_pos rfl]
 refine wpAny_bind (wpAny_holding ?_)
 unfold raisedFor
 rw[if_neg Bool.false_ne_true]
 refine wpAny_bind (wpAny_typeOf hT ?_)
 refine wpAny_bind (call_issubclass (issubclass_self hc De) ?_)
 refine wpAny_bind (wpAny_truthy_bool ?_)
 refine wpAny_pure ?_
 have k':Kept base h₀ h':=k.trans (.of_keeps hn.keeps)
 refine lC hh k' he Uq (by simpa using hf) (by simpa using ht) hd (k.missing hn.new) fun Mk k₂ kn hx=>h Mk e _ k₂ ?_ hx
 exact (Kept.of_keeps hn.keeps).n.trans kn
section
variable {nm q:Str}{C N:Addr}{bs bm Yi:List Value}{RL:Bool}{sn:List Str}{sub:List Value}{ab:Bool}{col:Option Bool}{dd:Option Addr}{k0 k1 k2 k3 k5:Option Value}{B newId RM:String}
theorem rK {s:Shared}{R:Result->Shared->Prop} (hC:s.heap.get? C=some (excClassObj nm q C N bs bm RL sn sub ab col dd k0 k1 k2 k3 k5 newId))
  (hq:R (.ok (.ret (.bool true))) s):wpAny (model prog w) A.in1 (Builtin.«issubclass» ⟨[.ref C,.ref C],[]⟩)
   (fun fin s'=>match fin with | .done f=>R (.ok f) s' | .again c'=>c'.quiet=true/\codeAny (model prog w) A c' R s') (fun e s'=>R (.error e) s') s:=by
 obtain⟨h,g,d,t,os⟩:=s
 refine issubclass_outer ?_
 have hT:(⟨h,g,d,t,os⟩:Shared).TypeIs (.ref C) "type":=⟨_,hC,rfl⟩
 repeat (any_goals (first | assumption | with_reducible refine wpAny_loadPart_at hC ?_ | (with_reducible refine wpAny_isSubtype_exc hC ?_;rw[show (Value.ref C::bm).contains (.ref C)=true from by simp]) | wp_step))
theorem Hl {base h₀:Heap}{env:Env}{s:Shared}{x:Str}{np pos:Pos}{Q:Flow->Shared->Prop} (hh:cB A h₀) (k:Kept base h₀ s.heap)
  (F:ExcBaseFacts B newId RM Yi) (T:OwnTail s.heap Yi bm) {mN:Str->Option Value}
  (hC:s.heap.get? C=some (excClassObj nm q C N bs bm RL sn sub ab col dd k0 k1 k2 k3 k5 newId)) (hn:s.heap.Ns N mN) (WX:mN "__init__"=none)
  (hx:wpAny (model prog w) A (eval (.Name x np) env) (fun v s₁=>v=.ref C/\s₁=s) E s)
  (h:∀ h' e tk,Kept base h₀ h'->cW base h₀ s.heap h'->ExcAt false h₀ (.ref C) e h'->E (.ref e) { s with heap:=h',toks:=tk }) :
  wpAny (model prog w) A (exec (.Raise (some (.Name x np)) none pos) env) Q E s:=by
 have Yj:(Value.ref C::bm).contains (.type "BaseException")=true:=by rw[List.contains_cons,T.hasType F.hasBase,Bool.or_true]
 show wpAny (model prog w) A (do standAt pos;raiseStmt env (some (do let v <- eval (.Name x np) env;standAt pos;pure v)) none) Q E s
 refine wpAny_bind (wpAny_standAt ?_)
 unfold raiseStmt
 dsimp only
 refine wpAny_bind (wpAny_bind (wpAny_mono hx (fun v s₁ aj=>wpAny_bind (wpAny_standAt (wpAny_pure ?_))) fun O O e=>e))
 refine aC aj fun aw Kl=>?_;try clear aj;subst aw
 subst s₁
 refine wpAny_bind (wpAny_pure ?_)
 dsimp only
 refine wpAny_bind (wpAny_holding ?_)
 obtain⟨hp,g,d,tk,os⟩:=s
 unfold excFromValue isExcClass
 refine wpAny_bind (wpAny_bind (m:=isType (.ref C)) (wpAny_bind (wpAny_loadPart hC (wpAny_pure ?_))))
 simp only[if_true]
 refine wpAny_isSubtype_exc hC ?_
 rw[Yj]
 simp only[if_true]
 refine wpAny_bind (wpAny_call_exc_subT F T hC hn WX fun h' e hm=>?_)
 refine Exists.elim hm.there fun t zz=>b6 zz fun he O O=>?_
 have WY:=hm.keeps _ _ hC
 have hT:(⟨h',g,d,tk,os⟩:Shared).heap.get? e=_:=he
 unfold isInstance
 refine wpAny_bind (wpAny_bind (m:=typeOf (.ref e)) (wpAny_bind (wpAny_loadPart he (wpAny_pure (wpAny_isSubtype_exc WY ?_)))))
 rw[Yj]
 simp only[Bool.not_true,Bool.false_eq_true,if_false]
 refine wpAny_pure ?_
 refine wpAny_bind (m:=isType (.ref C)) (wpAny_bind (wpAny_loadPart WY (wpAny_pure ?_)))
 simp only[if_true]
 refine wpAny_bind (wpAny_holding ?_)
 unfold raisedFor
 rw[if_neg Bool.false_ne_true]
 refine wpAny_bind (m:=typeOf (.ref e)) (wpAny_bind (wpAny_loadPart he (wpAny_pure ?_)))
 refine wpAny_bind (call_function_meets PySem.F.kind_issubclass PySem.F.plain_issubclass PySem.F.entry_issubclass (PySem.F.args_issubclass_2 _ _) (S:=fun A R s=>s=⟨h',g,d,tk,os⟩/\R (.ok (.ret (.bool true))) s) (fun O O A R s hs=>?_) ?_)
 ·refine aC hs fun aw hs=>?_;subst aw
  exact rK WY hs
 refine⟨rfl,?_⟩
 refine wpAny_bind (wpAny_truthy_bool ?_)
 refine wpAny_pure ?_
 have k':Kept base h₀ h':=k.trans (.of_keeps hm.keeps)
 refine lC (s:=⟨h',g,d,tk,os⟩) hh k' he rfl (by simp) (by simp) rfl (k.missing hm.new) fun Mk k₂ kn hx=>h Mk e _ k₂ ?_ hx
 exact (Kept.of_keeps hm.keeps).n.trans kn
end
theorem uG {T:String}{args:List Value}{v5:Value}{Q:Value->Shared->Prop}{s:Shared} (h5:firstArgMember (.type T) args=pure v5) (ho:ownMembersOf (.type T) args=#[]) (hl:args.length<=sizeLine)
  (h:∀ h' e t,(∀ b o,s.heap.get? b=some o->h'.get? b=some o)->s.heap.get? e=none->h'.get? e=some { cls:=.type T,data:=.fields #[t,.none,.none,.none,.bool false,v5] }->Q (.ref e) { s with heap:=h' }) :
  wpAny (model prog w) A (newExc (.type T) args) Q E s:=by
 unfold newExc newTuple
 refine wpAny_bind (wpAny_newObj_type ?_ (by show args.toArray.size<=sizeLine;simpa using hl))
 refine wpAny_bind (wpAny_of_eq h5 ?_)
 rw[ho]
 refine wpAny_newObj_type ?_ (by show (#[_,_,_,_,_,_]++#[]).size<=sizeLine+2;rw[sizeLine_eq];simp)
 refine h _ _ (.ref s.heap.objs.size) (fun b o q=>Heap.get?_push_of_some _ (Heap.get?_push_of_some _ q)) ?_ ?_
 ·refine Heap.get?_none_of_le ?_
  rw[Heap.size_push];exact Nat.le_succ _
 ·exact Heap.get?_push_size _ rfl
theorem o1 {α:Type}{base:Heap}{T:String}{s:Shared}{msg:PySem.Str}{Q:α->Shared->Prop} (hh:cB A s.heap) (h5:∀ a,firstArgMember (.type T) [a]=pure .none) (ho:∀ a,ownMembersOf (.type T) [a]=#[])
  (hf:T≠"frame") (ht:T≠"traceback") (m:Sem Value) (hm:∀ (Q E:Value->Shared->Prop),(∀ v tk,Q v { s with toks:=tk })->wpAny (model prog w) A m Q E s)
  (h:∀ e h' tk,Kept base s.heap h'->ExcAt false s.heap (.type T) e h'->E (.ref e) { s with heap:=h',toks:=tk }) :
  wpAny (model prog w) A (do raiseNew (<- newExc (.type T) [<- m]):Sem α) Q E s:=by
 refine wpAny_bind (hm _ _ fun v tk=>wpAny_bind (uG (h5 v) (ho v) (by show 1<=sizeLine;decide) fun h' e t hk hn he=>?_))
 refine jv (base:=base) (s:={ s with heap:=h',toks:=tk }) hh (.of_keeps hk) he rfl (by simpa using hf) (by simpa using ht) rfl rfl rfl hn fun Mk S9 hx=>h e Mk tk (.of_keeps fun b o q=>S9 b o (fun z=>?_) (hk b o q)) hx
 rw[z,hn] at q;contradiction
theorem n7 {α:Type}{base:Heap}{T msg:String}{s:Shared}{Q:α->Shared->Prop} (hh:cB A s.heap) (h5:∀ a,firstArgMember (.type T) [a]=pure .none) (ho:∀ a,ownMembersOf (.type T) [a]=#[])
  (hf:T≠"frame") (ht:T≠"traceback") (hs:(msg:PySem.Str).length<=sizeLine)
  (h:∀ e h' tk,Kept base s.heap h'->ExcAt false s.heap (.type T) e h'->E (.ref e) { s with heap:=h',toks:=tk }) :
  wpAny (model prog w) A (raiseErrorMade T msg:Sem α) Q E s:=
 o1 (msg:=msg) hh h5 ho hf ht (mkStr msg) (fun Q E hq=>wpAny_mkStr (hq _ _) hs) h
theorem mD {α:Type}{base:Heap}{T msg:String}{s:Shared}{Q:α->Shared->Prop} (hh:cB A s.heap) (h5:∀ a,firstArgMember (.type T) [a]=pure .none) (ho:∀ a,ownMembersOf (.type T) [a]=#[])
  (hf:T≠"frame") (ht:T≠"traceback")
  (h:∀ e h' tk,Kept base s.heap h'->ExcAt false s.heap (.type T) e h'->E (.ref e) { s with heap:=h',toks:=tk }) :
  wpAny (model prog w) A (raiseErrorWords T msg:Sem α) Q E s:=
 o1 (msg:=msg) hh h5 ho hf ht (mkText msg) (fun Q E hq=>wpAny_mkText (hq _ _)) h
theorem Bo (a:Value):firstArgMember (.type "TypeError") [a]=pure .none:=by first | rfl | (simp only[firstArgMember];rfl)
theorem first_value (a:Value):firstArgMember (.type "ValueError") [a]=pure .none:=by first | rfl | (simp only[firstArgMember];rfl)
theorem Km (a:Value):ownMembersOf (.type "TypeError") [a]=#[]:=rfl
theorem Hm (a:Value):ownMembersOf (.type "ValueError") [a]=#[]:=rfl
end
def Var (h:Heap) (ec:Env) (x:Str) (v:Value):Prop:=
 (ec.kindOf x=some .local/\∃ m,h.Ns ec.locals m/\m x=some v)∨((ec.kindOf x=some .cell∨ec.kindOf x=some .free)/\∃ c,ec.cells.lookup x=some c/\h.IsCell c (some v))
theorem Var.kept {base h h':Heap}{ec:Env}{x:Str}{v:Value} (y:Var h ec x v) (k:Kept base h h'):Var h' ec x v:=by
 rcases y with ⟨a,m,n,e⟩ | ⟨a,c,e,n⟩
 ·exact .inl ⟨a,m,k.ns n,e⟩
 ·exact .inr ⟨a,c,e,k.cell n⟩
noncomputable def bE (h:Heap) (X:Addr->Prop) (a:Addr):V->Prop
 | .list ds=>∃ o vs n,h.get? a=some o/\o.cls=.type "list"/\o.dict=none/\o.data=.seq vs n/\ds.length<=16777216/\az (seen (plus X a) h) ds vs.toList
 | .cj x=>∃ o y n,h.get? a=some o/\o.cls=.type "bytearray"/\o.dict=none/\o.data=.bytearray y n/\n=0/\y.toList.map UInt8.toNat=x/\x.length<=16777216
 | _=>False
theorem bE.rep {h:Heap}{X:Addr->Prop}{a:Addr} (hX:¬ X a):∀ {d:V},bE h X a d->Rep (seen X h) d (.ref a)
 | .list ds,⟨o,vs,n,e,c,_,hd,hl,r⟩=>by skip;exact⟨a,o,vs,n,rfl,⟨e,hX⟩,c,hd,hl,r.drop'⟩
 | .cj x,⟨o,y,n,e,c,_,hd,r⟩=>by skip;exact⟨a,o,y,n,rfl,⟨e,hX⟩,c,hd,r⟩
 | .none,h=>h.elim
 | .bool _,h=>h.elim
 | .int _,h=>h.elim
 | .str _,h=>h.elim
 | .bytes _,h=>h.elim
 | .tuple _,h=>h.elim
theorem bE.imp {h h':Heap}{X:Addr->Prop}{a:Addr}{d:V} (r:bE h X a d) (f:∀ o,h.get? a=some o->¬ book o->(∀ vs,o.data≠.fields vs)->h'.get? a=some o) (g:∀ {ds:List V}{vs:List Value},az (seen (plus X a) h) ds vs->az (seen (plus X a) h') ds vs):bE h' X a d:=by
 cases d<;>first | exact r.elim | skip
 ·exact eR r fun o y n w=>⟨o,y,n,f o w.1 (gA w.2.2.2.1) (fun vs q=>by rw[w.2.2.2.1] at q;contradiction),w.2⟩
 ·exact eR r fun o vs n w=>⟨o,vs,n,f o w.1 (dG w.2.2.2.1) (fun vs q=>by rw[w.2.2.2.1] at q;contradiction),w.2.1,w.2.2.1,w.2.2.2.1,w.2.2.2.2.1,g w.2.2.2.2.2⟩
theorem bE.kept {base h h':Heap} (k:Kept base h h') {X:Addr->Prop}{a:Addr}{d:V} (r:bE h X a d):bE h' X a d:=r.imp (fun o e b O=>k.get e b) k.kb
noncomputable abbrev Owner:=Option (Nat × Addr)
def gV (h:Heap) (X:Addr->Prop) (own:Owner) (i:Nat) (d:V) (v:Value):Prop:=
 match own with
 | some (aaQ,a)=>if i=aaQ then v=.ref a/\bE h X a d else Rep (seen (plus X a) h) d v
 | none=>Rep (seen X h) d v
def Oy (h:Heap) (X:Addr->Prop) (own:Owner) (ec:Env) (j:List (Str × Nat)) (J:Ρ):Prop:=
 ∀ x i d,j.lookup x=some i->J[i]?=some (some d)->∃ v,Var h ec x v/\gV h X own i d v
section
variable {h h':Heap}{X:Addr->Prop}{i aaQ:Nat}{a:Addr}{d:V}{v:Value}
theorem gV.own (r:gV h X (some (aaQ,a)) aaQ d v):v=.ref a/\bE h X a d:=by
 change ite (aaQ=aaQ) _ _ at r
 rwa [if_pos rfl] at r
theorem gV.other (e:i≠aaQ) (r:gV h X (some (aaQ,a)) i d v):Rep (seen (plus X a) h) d v:=by
 change ite (i=aaQ) _ _ at r
 rwa [if_neg e] at r
theorem gV.Kn (e:v=.ref a) (r:bE h X a d):gV h X (some (aaQ,a)) aaQ d v:=by
 show ite (aaQ=aaQ) _ _
 rw[if_pos rfl];exact⟨e,r⟩
theorem gV.j3 (e:i≠aaQ) (r:Rep (seen (plus X a) h) d v):gV h X (some (aaQ,a)) i d v:=by
 show ite (i=aaQ) _ _
 rwa [if_neg e]
theorem gV.imp {own:Owner} (r:gV h X own i d v) (f:∀ {a},bE h X a d->bE h' X a d) (g:∀ {Y},Rep (seen Y h) d v->Rep (seen Y h') d v):gV h' X own i d v:=by
 cases own with
 | none=>exact g r
 | some z=>
  by_cases e:i=z.1
  ·subst e;exact .Kn r.own.1 (f r.own.2)
  ·exact .j3 e (g (r.other e))
end
theorem gV.kept {base h h':Heap} (k:Kept base h h') {X:Addr->Prop}{own:Owner}{i:Nat}{d:V}{v:Value} (r:gV h X own i d v):gV h' X own i d v:=r.imp (bE.kept k) k.rep
theorem Oy.kept {base h h':Heap} (k:Kept base h h') {X:Addr->Prop}{own:Owner}{ec:Env}{j:List (Str × Nat)}{J:Ρ} (r:Oy h X own ec j J):Oy h' X own ec j J:=fun x i d e1 e2=>
 let ⟨v,a,b⟩:=r x i d e1 e2;⟨v,a.kept k,b.kept k⟩
structure Cx (base:Heap) (A:Around) (h:Heap) (k:Nat):Prop where
 stack:∃ l,A.frames=some l/\Frames base h l
 stays:base.StaysIn h
 held:cB A h
 depth:A.depth+k<=900
 units:A.units+10*k<=9000
theorem Cx.kept {base h h':Heap}{A:Around}{k:Nat} (c:Cx base A h k) (x:Kept base h h'):Cx base A h' k:=
 ⟨let ⟨l,a,b⟩:=c.stack;⟨l,a,b.kept x⟩,x.stays c.stays,c.held.kept x,c.depth,c.units⟩
structure Ge (ec:Env):Prop where
 kind:ec.scope.kind=.function
 globals:ec.globals=mainGlobals
 builtins:ec.builtins=builtinsNs
 cells:∀ y,ec.kindOf y=some .cell∨ec.kindOf y=some .free->∃ c,ec.cells.lookup y=some c
def rL (X:Addr->Prop) (h h':Heap) (d:V) (v:Value):Prop:=
 match d with
 | .list _=>∃ a,v=.ref a/\h.get? a=none/\bE h' X a d
 | .cj _=>∃ a,v=.ref a/\h.get? a=none/\bE h' X a d
 | _=>True
section
variable (prog:Program) (w:World) (base:Heap) (cl:dC->Value)
def Ex {α:Type} (s:Shared) (r:R α) (E:Value->Shared->Prop):Prop:=
 ∀ x e h' tk,r=.exc x->Kept base s.heap h'->ExcAt false s.heap (cl x) e h'->E (.ref e) { s with heap:=h',toks:=tk }
structure Po (X:Addr->Prop) (fr:Bool) (s:Shared) (r:R V) (Q E:Value->Shared->Prop):Prop where
 ok:∀ d v h' tk,r=.ok d->Kept base s.heap h'->Rep (seen X h') d v->(fr=true->rL X s.heap h' d v)->Q v { s with heap:=h',toks:=tk }
 ex:Ex base cl s r E
structure RN (X:Addr->Prop) (s:Shared) (r:R (List V)) (Q:List Value->Shared->Prop) (E:Value->Shared->Prop):Prop where
 ok:∀ ds vs h' tk,r=.ok ds->Kept base s.heap h'->az (seen X h') ds vs->Q vs { s with heap:=h',toks:=tk }
 ex:Ex base cl s r E
structure Qo (s:Shared) (r:R Bool) (Q:Bool->Shared->Prop) (E:Value->Shared->Prop):Prop where
 ok:∀ b h' tk,r=.ok b->Kept base s.heap h'->Q b { s with heap:=h',toks:=tk }
 ex:Ex base cl s r E
def Ev (A:Around) (X:Addr->Prop) (fr:Bool) (t:Sem Value) (s:Shared) (r:R V):Prop:=
 ∀ Q E,Po base cl X fr s r Q E->r≠.stuck->wpAny (model prog w) A t Q E s
def RP (A:Around) (t:Sem Bool) (s:Shared) (r:R Bool):Prop:=
 ∀ Q E,Qo base cl s r Q E->r≠.stuck->wpAny (model prog w) A t Q E s
end
theorem R.aN {α β:Type}{r:R α}{f:α->R β} (h:r.bind f≠.stuck):r≠.stuck:=fun e=>h (by rw[e];rfl)
theorem R.bP {α β:Type}{r:R α}{f:α->R β}{a:α} (e:r=.ok a):r.bind f=f a:=by rw[e];rfl
theorem R.aZ {α β:Type}{r:R α}{f:α->R β}{a:α} (au:r.bind f≠.stuck) (e:r=.ok a):f a≠.stuck:=by rw[R.bP e] at au;exact au
theorem rL.elder {base:Heap}{X:Addr->Prop}{aj aE bG:Heap}{d:V}{v:Value} (k:Kept base aj aE) (f:rL X aE bG d v):rL X aj bG d v:=by
 cases d with
 | list _=>exact Exists.elim f fun a zz=>⟨a,zz.1,k.missing zz.2.1,zz.2.2⟩
 | cj _=>exact Exists.elim f fun a zz=>⟨a,zz.1,k.missing zz.2.1,zz.2.2⟩
 | _=>trivial
section
variable {prog:Program}{w:World}{base:Heap}{cl:dC->Value}{A:Around}{X:Addr->Prop}{s:Shared}{α:Type}
theorem Ex.of {β:Type}{r:R α}{f:α->R β}{E:Value->Shared->Prop} (p:Ex base cl s (r.bind f) E):Ex base cl s r E:=fun x e h' tk q=>p x e h' tk (by rw[q];rfl)
theorem Ex.move {r:R α}{h:Heap}{tk:Nat}{E:Value->Shared->Prop} (p:Ex base cl s r E) (k:Kept base s.heap h):Ex base cl { s with heap:=h,toks:=tk } r E:=
 fun x bM h' mE q k' y=>p x bM h' mE q (k.trans k') (y.elder k)
theorem Po.move {fr:Bool}{r:R V}{h:Heap}{tk:Nat}{Q E:Value->Shared->Prop} (p:Po base cl X fr s r Q E) (k:Kept base s.heap h):Po base cl X fr { s with heap:=h,toks:=tk } r Q E:=
 ⟨fun d v h' mE q k' y f=>p.ok d v h' mE q (k.trans k') y fun z=>(f z).elder k,p.ex.move k⟩
theorem Po.step {fr:Bool}{r:R α}{f:α->R V}{a:α}{h:Heap}{tk:Nat}{Q E:Value->Shared->Prop} (p:Po base cl X fr s (r.bind f) Q E) (e:r=.ok a) (k:Kept base s.heap h):Po base cl X fr { s with heap:=h,toks:=tk } (f a) Q E:=by
 rw[R.bP e] at p;exact p.move k
theorem RN.move {r:R (List V)}{h:Heap}{tk:Nat}{Q:List Value->Shared->Prop}{E:Value->Shared->Prop} (p:RN base cl X s r Q E) (k:Kept base s.heap h):RN base cl X { s with heap:=h,toks:=tk } r Q E:=
 ⟨fun d v h' mE q k' y=>p.ok d v h' mE q (k.trans k') y,p.ex.move k⟩
theorem RN.step {r:R α}{f:α->R (List V)}{a:α}{h:Heap}{tk:Nat}{Q:List Value->Shared->Prop}{E:Value->Shared->Prop} (p:RN base cl X s (r.bind f) Q E) (e:r=.ok a) (k:Kept base s.heap h):RN base cl X { s with heap:=h,toks:=tk } (f a) Q E:=by
 rw[R.bP e] at p;exact p.move k
theorem Qo.move {r:R Bool}{h:Heap}{tk:Nat}{Q:Bool->Shared->Prop}{E:Value->Shared->Prop} (p:Qo base cl s r Q E) (k:Kept base s.heap h):Qo base cl { s with heap:=h,toks:=tk } r Q E:=
 ⟨fun b h' mE q k'=>p.ok b h' mE q (k.trans k'),p.ex.move k⟩
theorem Qo.step {r:R α}{f:α->R Bool}{a:α}{h:Heap}{tk:Nat}{Q:Bool->Shared->Prop}{E:Value->Shared->Prop} (p:Qo base cl s (r.bind f) Q E) (e:r=.ok a) (k:Kept base s.heap h):Qo base cl { s with heap:=h,toks:=tk } (f a) Q E:=by
 rw[R.bP e] at p;exact p.move k
theorem Ev.stuck {fr:Bool}{t:Sem Value}:Ev prog w base cl A X fr t s .stuck:=fun O O O h=>absurd rfl h
theorem RP.stuck {t:Sem Bool}:RP prog w base cl A t s .stuck:=fun O O O h=>absurd rfl h
theorem Ev.guard {fr:Bool}{t:Sem Value}{c:Bool}{r:R V} (h:c=true->Ev prog w base cl A X fr t s r):Ev prog w base cl A X fr t s (R.guard c r):=by
 cases c with
 | true=>exact h rfl
 | false=>exact .stuck
theorem Ev.weak {fr:Bool}{t:Sem Value}{r:R V} (h:Ev prog w base cl A X fr t s r):Ev prog w base cl A X false t s r:=
 fun Q E p au=>h Q E ⟨fun d v h' tk e k rp O=>p.ok d v h' tk e k rp fun q=>(by contradiction),p.ex⟩ au
theorem Ev.val {fr:Bool}{t:Sem Value}{d:V} (h:∀ (Q E:Value->Shared->Prop),(∀ v h' tk,Kept base s.heap h'->Rep (seen X h') d v->(fr=true->rL X s.heap h' d v)->Q v { s with heap:=h',toks:=tk })->wpAny (model prog w) A t Q E s) :
  Ev prog w base cl A X fr t s (.ok d):=fun Q E p O=>h Q E fun v h' tk k r f=>p.ok d v h' tk rfl k r f
theorem Ev.flat {fr:Bool}{t:Sem Value}{d:V} (hd:∀ h h' v,rL X h h' d v) (h:∀ (Q E:Value->Shared->Prop),(∀ v tk,Rep (seen X s.heap) d v->Q v { s with toks:=tk })->wpAny (model prog w) A t Q E s) :
  Ev prog w base cl A X fr t s (.ok d):=.val fun Q E hQ=>h Q E fun v tk r=>hQ v s.heap tk (.refl _ _) r fun O=>hd _ _ _
theorem RP.val {t:Sem Bool}{b:Bool} (h:∀ (Q:Bool->Shared->Prop) (E:Value->Shared->Prop),(∀ tk,Q b { s with toks:=tk })->wpAny (model prog w) A t Q E s):RP prog w base cl A t s (.ok b):=
 fun Q E p O=>h Q E fun tk=>p.ok b s.heap tk rfl (.refl _ _)
end
open Sem (wp)
noncomputable def loud:List String:=["bytearray.__contains__","bytearray.find.held","bytearray.__mod__","bytearray.__rmod__","_struct.pack_into.held"]++Builtin.Bytes.decodersThatHold
noncomputable def calm:Code->Bool
 | .builtin id args=>!loud.contains id||!args.pos.any Value.onHeap
 | _=>true
def Ko (Γ:Ctx):Prop:=∀ x∈Γ.below,calm x.1=true
def Calm (Γ:Ctx):Prop:=calm Γ.code=true/\Ko Γ
theorem Calm.enter {Γ:Ctx} (h:Calm Γ) (c:Code) (hd:Option Value) (p:Pos):Ko (Γ.enter c hd p):=fun x hx=>by
 rcases List.mem_cons.mp hx with q | q
 ·rw[q];exact h.1
 ·exact h.2 x q
def aL {α:Type} (M:Model) (A:Around) (t:Sem α) (Q:α->Shared->Prop) (E:Value->Shared->Prop) (s:Shared):Prop:=
 ∀ Γ p,Γ.In A->Calm Γ->wp M Γ t (fun a O s'=>Q a s') (fun e O s'=>E e s') p s
def b9 (M:Model) (A:Around) (c:Code) (R:Result->Shared->Prop) (s:Shared):Prop:=
 ∀ Γ p,Γ.code=c->Γ.Below A->Ko Γ->wpCode M Γ R p s
section
variable {α β:Type}{M:Model}{A:Around}{E:Value->Shared->Prop}{s:Shared}
theorem ag {t:Sem α}{Q:α->Shared->Prop} (h:wpAny M A t Q E s):aL M A t Q E s:=fun Γ p a O=>h Γ p a
theorem cg {c:Code}{R:Result->Shared->Prop} (h:codeAny M A c R s):b9 M A c R s:=fun Γ p e a O=>h Γ p e a
theorem jw {t:Sem α}{Q Q':α->Shared->Prop}{E':Value->Shared->Prop} (h:aL M A t Q E s) (hQ:∀ a s,Q a s->Q' a s) (hE:∀ e s,E e s->E' e s):aL M A t Q' E' s:=
 fun Γ p a c=>Sem.wp_mono M Γ t (fun a O s=>hQ a s) (fun e O s=>hE e s) p s (h Γ p a c)
theorem aJ {m:Sem α}{f:α->Sem β}{Q:β->Shared->Prop} (h:aL M A m (fun a s'=>aL M A (f a) Q E s') E s):aL M A (m >>= f) Q E s:=fun Γ p a c=>by
 rw[Sem.wp_bind']
 exact Sem.wp_mono M Γ m (fun x p' s' h'=>h' Γ p' a c) (fun O O O h'=>h') p s (h Γ p a c)
theorem ay {m:Sem α}{f:α->Sem β}{Q₁:α->Shared->Prop}{Q:β->Shared->Prop} (h:aL M A m Q₁ E s) (k:∀ a s',Q₁ a s'->aL M A (f a) Q E s'):aL M A (m >>= f) Q E s:=aJ (jw h k fun O O e=>e)
theorem aG {a:α}{Q:α->Shared->Prop} (h:Q a s):aL M A (pure a) Q E s:=(ag (wpAny_pure h))
theorem av {f:Unit->Sem β}{pos:Pos}{Q:β->Shared->Prop} (h:aL M A (f ()) Q E s):aL M A (standAt pos >>= f) Q E s:=aJ (ag (wpAny_standAt h))
theorem eU {m:Sem α}{a:α}{f:α->Sem β}{Q:β->Shared->Prop} (e:m=pure a) (h:aL M A (f a) Q E s):aL M A (m >>= f) Q E s:=by rw[e];exact aJ (aG h)
theorem aA {vs:List Value}{m:Sem α}{Q:α->Shared->Prop} (h:aL M A m Q E s):aL M A (holding vs m) Q E s:=fun Γ p a c=>by rw[Sem.wp_holding];exact h Γ p a c
theorem j4 {m:Sem α}{k:Value->Sem Unit}{Q:α->Shared->Prop} (h:aL M A m Q (fun e s'=>wpAny M A (k e) (fun O wa=>E e wa) E s') s):aL M A (m.onRaise k) Q E s:=fun Γ p a c=>by
 rw[Sem.wp_onRaise]
 exact Sem.wp_mono M Γ m (fun O O O h'=>h') (fun e p' s' h'=>h' Γ p' a) p s (h Γ p a c)
theorem uH {m:Sem α}{Q:Except Value α->Shared->Prop} (h:aL M A m (fun a=>Q (.ok a)) (fun e=>Q (.error e)) s):aL M A m.attempt Q E s:=fun Γ p a c=>by rw[Sem.wp_attempt];exact h Γ p a c
theorem wc {c:Code}{R R':Result->Shared->Prop} (h:b9 M A c R s) (hR:∀ r s,R r s->R' r s):b9 M A c R' s:=fun Γ p e a c=>wpCode_mono hR (h Γ p e a c)
theorem Qp {c:Code}{h:Option Value}{Q:Flow->Shared->Prop} (hc:b9 M (A.mark h) c (fun r s'=>match r with | .ok f=>Q f s' | .error e=>E e s') s) (RQ:h≠some byPass:=by intro x;contradiction):aL M A (run c h) Q E s:=
 fun Γ p a k=>by rw[Sem.wp_run];exact hc _ p rfl (a.enter c h p RQ) (k.enter c h p)
theorem lE {f:Value}{pos:List Value}{kw:List (Str × Value)}{Q:Value->Shared->Prop} (hc:b9 M A (.call f ⟨pos,kw⟩) (fun r s'=>match r with | .ok (.ret v)=>Q v s' | .ok _=>False | .error e=>E e s') s):aL M A (call f pos kw) Q E s:=
 fun Γ p a k=>by
  show wp M Γ (runValue (.call f ⟨pos,kw⟩)) _ _ _ _
  rw[Sem.wp_runValue]
  exact hc _ p rfl (a.enter _ none p (by intro x;contradiction)) (k.enter _ none p)
theorem jx {c:Code}{R:Result->Shared->Prop} (hk:calm c=true) (h:aL M (A.under c) (M.den c) (fun fin s'=>match fin with | .done f=>R (.ok f) s' | .again c'=>c'.quiet=true/\b9 M A c' R s') (fun e s'=>R (.error e) s') s):b9 M A c R s:=fun Γ p e a k=>by
 rw[wpCode_iff_wp,e]
 refine Sem.wp_mono M Γ _ (fun fin p' s' h'=>?_) (fun O O O h'=>h') p s (h Γ p (e ▸ a.in) ⟨by rw[e];exact hk,k⟩)
 cases fin with
 | done f=>exact h'
 | again c'=>exact⟨h'.1,h'.2 (Γ.goto c') p' rfl (a.goto c') k⟩
theorem Bp {c:Code}{R:Result->Shared->Prop} (hk:calm c=true) (hq:c.quiet=true) (I:Nat->Shared->Prop)
  (turn:∀ n s,I n s->aL M (A.under c) (M.den c) (fun fin s'=>match fin with | .done f=>R (.ok f) s' | .again c'=>(c'=c/\∃ m,m<n/\I m s')∨(c'.quiet=true/\b9 M A c' R s')) (fun e s'=>R (.error e) s') s)
  (n:Nat) (h:I n s):b9 M A c R s:=by
 induction n using Nat.strongRecOn generalizing s with
 | ind n ih=>
  refine jx hk (jw (turn n s h) (fun fin s' hf=>?_) fun O O h'=>h')
  cases fin with
  | done f=>exact hf
  | again c'=>
   rcases hf with ⟨rfl,m,hm,hI⟩ | hf
   ·exact⟨hq,ih m hm hI⟩
   ·exact hf
theorem mF {c:Code}{h:Option Value}{env:Env}{Q:Flow->Shared->Prop} (hc:b9 M (A.mark h) c (fun r s'=>match r with | .ok f=>Q f s' | .error e=>cameBackBy M A env E e s') s) (RQ:h≠some byPass:=by intro x;contradiction):aL M A (runOwn c env h) Q E s:=by
 exact j4 (Qp hc RQ)
theorem qc {env:Env}{m:Sem α}{Q:α->Shared->Prop} (h:aL M A m Q (notedBy M A env E) s):aL M A (m.onRaise fun x=>do noteFrame x env;theTreesLotGoes x) Q E s:=
 j4 (jw h (fun O O q=>q) fun O O hx=>wpAny_bind (wpAny_mono hx (fun O O e=>wpAny_theTreesLotGoes e) fun O O e=>e))
theorem Hn {env:Env}{m:Sem α}{pos:Pos}{Q:α->Shared->Prop} (h:aL M A m Q (notedBy M A env E) s):aL M A (m.onRaise fun x=>do noteFrame x env;standAt pos) Q E s:=
 j4 (jw h (fun O O q=>q) fun O O hx=>wpAny_bind (wpAny_mono hx (fun O O e=>wpAny_standAt e) fun O O e=>e))
noncomputable def yw (a:Addr) (x:Code × Pos):Bool:=match x with
  | (.builtin "bytearray.__contains__" ⟨v::_,_⟩,_) | (.builtin "bytearray.__mod__" ⟨v::_,_⟩,_)
  | (.builtin "bytearray.__rmod__" ⟨_::v::_,_⟩,_) | (.builtin "_struct.pack_into.held" ⟨v::_,_⟩,_)=>Builtin.Bytes.sameRef v (.ref a)
  | (.builtin "bytearray.find.held" ⟨_::_::held,_⟩,_)=>held.any (Builtin.Bytes.sameRef (.ref a))
  | (.builtin id ⟨v::_,_⟩,_)=>Builtin.Bytes.sameRef v (.ref a)&&Builtin.Bytes.decodersThatHold.contains id
  | _=>false
theorem eQ {c:Prop} [Decidable c] {x:c->Bool}{y:¬c->Bool} (h1:∀ h,x h=false) (h2:∀ h,y h=false):dite c x y=false:=by
 by_cases h:c
 ·rw[dif_pos h];exact h1 h
 ·rw[dif_neg h];exact h2 h
theorem away {a:Addr}{v:Value} (h:¬ v.onHeap=true):Builtin.Bytes.sameRef v (.ref a)=false/\Builtin.Bytes.sameRef (.ref a) v=false:=by
 cases v<;>first | exact⟨rfl,rfl⟩ | exact absurd rfl h
theorem Bq {b c:Bool} (h:c=true->b=false):(b&&c)=false:=by
 cases c with
 | true=>rw[h rfl];rfl
 | false=>exact Bool.and_false b
theorem eV {a:Addr}{id:String}{vs:List Value}{kw:List (PySem.Str × Value)} (hx:calm (.builtin id ⟨vs,kw⟩)=true) (hl:loud.contains id=true) {v:Value} (hv:v∈vs):Builtin.Bytes.sameRef v (.ref a)=false/\Builtin.Bytes.sameRef (.ref a) v=false:=by
 have:vs.any Value.onHeap=false:=by
  have h:(!loud.contains id||!vs.any Value.onHeap)=true:=hx
  rw[hl] at h
  exact (Bool.not_eq_true' _).mp h
 exact away (List.any_eq_false.mp this v hv)
theorem rM {id:String} (q:Builtin.Bytes.decodersThatHold.contains id=true):loud.contains id=true:=by
 rw[List.contains_iff_mem] at q ⊢
 exact List.mem_append_right _ q
theorem Oz {a:Addr}{id:String}{vs:List Value}{kw:List (PySem.Str × Value)}{p:Pos} (hx:calm (.builtin id ⟨vs,kw⟩)=true):yw a (.builtin id ⟨vs,kw⟩,p)=false:=by
 cases vs with
 | nil=>
  unfold yw
  delta yw.match_1
  refine eQ (fun h=>?_) fun O=>eQ (fun h=>?_) fun O=>eQ (fun h=>?_) fun O=>eQ (fun h=>?_) fun O=>eQ (fun h=>?_) fun O=>rfl
  all_goals subst h;rfl
 | cons v r=>
  unfold yw
  delta yw.match_1
  refine eQ (fun h=>?_) fun O=>eQ (fun h=>?_) fun O=>eQ (fun h=>?_) fun O=>eQ (fun h=>?_) fun O=>eQ (fun h=>?_) fun O=>Bq fun q=>(eV hx (rM q) (.head _)).1
  ·subst h;exact (eV hx (by decide +kernel) (.head _)).1
  ·subst h;exact (eV hx (by decide +kernel) (.head _)).1
  ·subst h
   cases r with
   | nil=>exact Bq fun q=>(eV hx (rM q) (.head _)).1
   | cons u r=>exact (eV hx (by decide +kernel) (.tail _ (.head _))).1
  ·subst h;exact (eV hx (by decide +kernel) (.head _)).1
  ·subst h
   cases r with
   | nil=>exact Bq fun q=>(eV hx (rM q) (.head _)).1
   | cons u r=>exact List.any_eq_false.mpr fun z hz=>ne_true_of_eq_false (eV hx (by decide +kernel) (.tail _ (.tail _ hz))).2
theorem Br {a:Addr}{Q:Bool->Shared->Prop} (h:Q false s):aL M A (Builtin.Bytes.exported (.ref a)) Q E s:=fun Γ p O c=>by
 have key:∀ x:Code × Pos,calm x.1=true->yw a x=false:=fun x hx=>by
  obtain⟨c,p⟩:=x
  cases c<;>try rfl
  exact Oz hx
 have e:((Γ.code,p)::Γ.below).any (yw a)=false:=List.any_eq_false.mpr fun x hx=>ne_true_of_eq_false (key x (by
  rcases List.mem_cons.mp hx with q | q
  ·rw[q];exact c.1
  ·exact c.2 x q))
 show Q (((Γ.code,p)::Γ.below).any (yw a)) s
 rw[e]
 exact h
end
open Sem (wp)
section
variable {M:Model}{A:Around}{E:Value->Shared->Prop}{s:Shared}{env:Env}
theorem j5 {vs:List Value}{m:Sem Value}{Q:Value->Shared->Prop} (h:aL M A m Q E s):aL M A (operate vs m) Q E s:=fun Γ p a c=>by rw[Sem.wp_operate];exact h Γ p a c
theorem OB {l op r pos}{Q:Value->Shared->Prop} (h:aL M A (eval l env) (fun a s₁=>aL M A (eval r env) (fun b a9=>aL M A (binaryOp op a b) Q E a9) E s₁) E s):aL M A (eval (.BinOp l op r pos) env) Q E s:=by
 exact ay h fun a s₁ aj=>ay (aA aj) fun b a9 aE=>av (j5 aE)
theorem Bs {l op r pos}{Q:Value->Shared->Prop} (h:aL M A (eval l env) (fun a s₁=>aL M A (eval r env) (fun b a9=>aL M A (compareOp op a b) Q E a9) E s₁) E s) (hm:behindInMarks op r=false) :
  aL M A (eval (.Compare l [op] [r] pos) env) Q E s:=by
 rw[eval_Compare1,markedBehindIn_of_false hm]
 exact ay h fun a s₁ aj=>ay (aA aj) fun b a9 aE=>av (j5 aE)
theorem mG {l op r pos whole}{Q:Bool->Shared->Prop} (h:aL M A (eval l env) (fun a s₁=>aL M A (eval r env) (fun b a9=>aL M A (compareOp op a b) (fun c dJ=>aL M A (truthy c) Q E dJ) E a9) E s₁) E s) (hm:behindInMarks op r=false) :
  aL M A (isTrue (.Compare l [op] [r] pos) env whole) Q E s:=by
 rw[isTrue_Compare1,markedBehindIn_of_false hm]
 exact ay h fun a s₁ aj=>ay (aA aj) fun b a9 aE=>av (ay (j5 aE) fun c dJ bG=>aA bG)
theorem Ho {op x pos}{Q:Value->Shared->Prop} (h:aL M A (eval x env) (fun v s₁=>aL M A (unaryOp op v) Q E s₁) E s):aL M A (eval (.UnaryOp op x pos) env) Q E s:=
 ay (f:=fun v=>do standAt pos;holding [v] (unaryOp op v)) h fun v s₁ aj=>av (aA aj)
theorem RT {x y:Expr}{pos:Pos}{Q:Value->Shared->Prop} (h:aL M A (eval x env) (fun v s₁=>aL M A (truthy v) (fun t a9=>if t then aL M A (eval y env) Q E a9 else Q v a9) E s₁) E s) :
  aL M A (eval (.BoolOp .And [x,y] pos) env) Q E s:=
 ay (m:=eval x env) h fun v s₁ aj=>av (ay (aA aj) fun t a9 aE=>by
  cases t
  ·exact aG aE
  ·exact aE)
theorem Ur {x y:Expr}{pos:Pos}{Q:Value->Shared->Prop} (h:aL M A (eval x env) (fun v s₁=>aL M A (truthy v) (fun t a9=>if t then Q v a9 else aL M A (eval y env) Q E a9) E s₁) E s) :
  aL M A (eval (.BoolOp .Or [x,y] pos) env) Q E s:=
 ay (m:=eval x env) h fun v s₁ aj=>av (ay (aA aj) fun t a9 aE=>by
  cases t
  ·exact aE
  ·exact aG aE)
theorem wd {x:Expr}{pos:Pos}{whole:Sem Value}{Q:Bool->Shared->Prop} (h:aL M A (isTrue x env (eval x env)) (fun b s₁=>Q (!b) s₁) E s):aL M A (isTrue (.UnaryOp .Not x pos) env whole) Q E s:=by
 rw[arm_isTrue_UnaryOp]
 exact ay h fun b s₁ aj=>aG aj
theorem rN {e:Expr}{whole:Sem Value}{Q:Bool->Shared->Prop} (h:aL M A whole (fun v s₁=>aL M A (truthy v) Q E s₁) E s) (he:isTrue e env whole=(do let v <- whole;standAt e.pos;holding [v] (truthy v))):aL M A (isTrue e env whole) Q E s:=by
 rw[he]
 exact ay h fun v s₁ aj=>av (aA aj)
theorem pK {op:BoolOp}{values:List Expr}{pos:Pos}{whole:Sem Value}{Q:Bool->Shared->Prop} (h:aL M A (allTrue op values env) Q E s):aL M A (isTrue (.BoolOp op values pos) env whole) Q E s:=by
 rw[arm_isTrue_BoolOp];exact h
theorem kL {x:Expr}{rest:List Expr}{Q:Bool->Shared->Prop} (h:aL M A (isTrue x env (eval x env)) (fun b s₁=>if b then aL M A (allTrue .And rest env) Q E s₁ else Q false s₁) E s):aL M A (allTrue .And (x::rest) env) Q E s:=
 ay (m:=isTrue x env (eval x env)) h fun b s₁ aj=>by
  cases b
  ·exact aG aj
  ·exact aj
theorem mH {x:Expr}{rest:List Expr}{Q:Bool->Shared->Prop} (h:aL M A (isTrue x env (eval x env)) (fun b s₁=>if b then Q true s₁ else aL M A (allTrue .Or rest env) Q E s₁) E s):aL M A (allTrue .Or (x::rest) env) Q E s:=
 ay (m:=isTrue x env (eval x env)) h fun b s₁ aj=>by
  cases b
  ·exact aj
  ·exact aG aj
theorem cS {x:Sem Value}{rest:List (Bool × Sem Value)}{Q:List Value->Shared->Prop} (h:aL M A x (fun v s₁=>aL M A (spliced rest) (fun vs a9=>Q (v::vs) a9) E s₁) E s):aL M A (spliced ((false,x)::rest)) Q E s:=by
 refine ay h fun v s₁ aj=>?_
 rw[if_neg Bool.false_ne_true]
 exact eU rfl (ay (aA aj) fun vs a9 aE=>aG aE)
theorem OD {elts:List Expr}{k:Nat}{pos:Pos}{Q:Value->Shared->Prop} (h:aL M A (spliced (backTo pos (starEach elts env))) (fun vs s₁=>aL M A (newTuple vs) Q E s₁) E s):aL M A (eval (.Tuple elts k pos) env) Q E s:=by
 rw[arm_eval_Tuple]
 exact av (aJ h)
theorem RV {elts:List Expr}{pos:Pos}{Q:Value->Shared->Prop} (h:aL M A (spliced (backTo pos (starEach elts env))) (fun vs s₁=>aL M A (newList vs) Q E s₁) E s):aL M A (eval (.List elts pos) env) Q E s:=by
 rw[arm_eval_List]
 exact av (aJ h)
theorem o6 {value slice pos}{Q:Value->Shared->Prop} (h:aL M A (eval value env) (fun o s₁=>aL M A (eval slice env) (fun i a9=>aL M A (subscriptTail value slice o i) Q E a9) E s₁) E s):aL M A (eval (.Subscript value slice pos) env) Q E s:=by
 exact ay h fun o s₁ aj=>ay (aA aj) fun i a9 aE=>av aE
theorem OG {lower upper:Option Expr}{p:Pos}{Q:Value->Shared->Prop} (h:aL M A (evalPart lower env) (fun l s₁=>aL M A (evalPart upper env) (fun u a9=>Q (.ref a9.heap.objs.size) { a9 with heap:=a9.heap.push { cls:=.type "slice",data:=.fields #[l,u,.none] } }) E s₁) E s) :
  aL M A (eval (.Slice lower upper none p) env) Q E s:=by
 rw[arm_eval_Slice]
 refine ay (m:=valueOrNone (evalOpt lower env)) h fun l s₁ aj=>ay (aA (m:=valueOrNone (evalOpt upper env)) aj) fun u a9 aE=>?_
 exact aJ (aA (aG (ag (wpAny_newObj_type aE))))
theorem dA {id:PySem.Str}{p pos:Pos}{args:List Expr}{keywords:List Keyword}{Q:Value->Shared->Prop}
  (h:aL M A (eval (.Name id p) env) (fun f s₁=>aL M A (callWith pos f [] (backTo pos (starEach args env)) (backToKw pos (keywordEach keywords env))) Q E s₁) E s):aL M A (eval (.Call (.Name id p) args keywords pos) env) Q E s:=by
 rw[arm_eval_Call_Name']
 exact aJ h
theorem c6 {f:Value}{x:Sem Value}{rest:List (Bool × Sem Value)}{Q:Args->Shared->Prop} (h:aL M A (spliced ((false,x)::rest)) (fun vs s'=>Q ⟨vs,[]⟩ s') E s):aL M A (evalArgs f true ((false,x)::rest) []) Q E s:=by
 refine ay (m:=spliced ((false,x)::rest)) h fun vs s' h'=>aA ?_
 exact eU rfl (eU rfl (aG h'))
theorem yx {f:Value}{Q:Args->Shared->Prop} (h:Q ⟨[],[]⟩ s):aL M A (evalArgs f true [] []) Q E s:=(ag (PySem.evalArgs_none h))
theorem wg {t:Sem Value}{Q:Value->Shared->Prop} (h:aL M A t Q E s):aL M A (do let r <- t;holding [r] point;pure r) Q E s:=ay h fun r a9 hr=>aJ (aA (ag (wpAny_point (show aL M A (pure r) Q E a9 from aG hr))))
theorem cu {pos:Pos}{id:String}{first:List Value}{args:List (Bool × Sem Value)}{Q:Value->Shared->Prop} (rO:args.any (·.1)=false) (h:aL M A (evalArgs (.builtin id) true args []) (fun a s₁=>aL M A (call (.builtin id) (first++a.pos) a.kw) Q E s₁) E s) :
  aL M A (callWith pos (.builtin id) first args []) Q E s:=by
 refine ay (aA h) fun a s₁ aj=>av ?_
 rw[rO]
 exact eU rfl (wg aj)
theorem dQ {pos:Pos}{T:String}{first:List Value}{args:List (Bool × Sem Value)}{Q:Value->Shared->Prop} (rO:args.any (·.1)=false) (h:aL M A (evalArgs (.type T) true args []) (fun a s₁=>aL M A (call (.type T) (first++a.pos) a.kw) Q E s₁) E s) :
  aL M A (callWith pos (.type T) first args []) Q E s:=by
 refine ay (aA h) fun a s₁ aj=>av ?_
 rw[rO]
 exact eU rfl (wg aj)
theorem RW {α:Type}{vs:List Value}{m:Sem α}{Q:α->Shared->Prop} (h:aL M A m Q E s):aL M A (m.keep vs) Q E s:=fun Γ p a c=>by rw[Sem.wp_keep];exact h Γ p a c
theorem yy {a:Addr}{o:Obj}{fd:FuncData}{Q:Keeper->Shared->Prop} (ho:s.heap.get? a=some o) (hd:o.data=.func fd) (h:Q .frame s):wpAny M A (keeperOf (.ref a)) Q E s:=by
 refine wpAny_bind (wpAny_load ho ?_)
 rw[hd]
 exact wpAny_pure h
theorem Us {c:Prop} [Decidable c] {t e:Sem Value}{Q:Value->Shared->Prop} (h:aL M A t Q E s) (k:aL M A e Q E s):aL M A (if c then t else e) Q E s:=by
 by_cases q:c
 ·rw[if_pos q];exact h
 ·rw[if_neg q];exact k
theorem ke {pos:Pos}{a:Addr}{o:Obj}{fd:FuncData}{first:List Value}{args:List (Bool × Sem Value)}{Q:Value->Shared->Prop} (rO:args.any (·.1)=false)
  (h:aL M A (evalArgs (.ref a) true args []) (fun x s₁=>(s₁.heap.get? a=some o/\o.data=.func fd)/\aL M A (call (.ref a) (first++x.pos) x.kw) Q E s₁) E s):aL M A (callWith pos (.ref a) first args []) Q E s:=by
 refine ay (aA h) fun x s₁ aj=>av ?_
 rw[rO]
 refine aJ (ag (yy aj.1.1 aj.1.2 ?_))
 show aL M A (if args.length+2*0 > 30 then (do let r <- call (.ref a) (first++x.pos) x.kw;holding [r] point;pure r) else (do let r <- callMarked plainCall (.ref a) (first++x.pos) x.kw;holding [r] point;pure r)) Q E s₁
 exact Us (wg aj.2) (wg (RW aj.2))
end
open Sem (wp)
section
variable {M:Model}{A:Around}{E:Value->Shared->Prop}{s:Shared}{env:Env}
theorem gB {o:Expr}{name:PySem.Str}{apos pos:Pos}{args:List Expr}{Q:Value->Shared->Prop} (Kp:attributeBase o name env (eval o env)=eval o env)
  (RX:((backTo pos (starEach args env)).all (fun x=>!x.1)&&(backToKw pos (keywordEach [] env)).all (fun x=>x.1.isSome)&&decide (args.length+([]:List Keyword).length+(if ([]:List Keyword).isEmpty then 0 else 1)<30))=true)
  (hline:(apos.endLine == pos.line)=true)
  (h:aL M A (eval o env) (fun ov s₁=>∃ (T id:String),PlainAttrs T/\Slot T name id/\typeOf (.builtin id)=pure (.type "method_descriptor")/\s₁.TypeIs ov T/\
   (∀ a,ov=.ref a->∃ ob,s₁.heap.get? a=some ob/\ob.dict=none)/\aL M A (callWith pos (.builtin id) [ov] (backTo pos (starEach args env)) []) Q E s₁) E s) :
  aL M A (eval (.Call (.Attribute o name apos) args [] pos) env) Q E s:=by
 rw[arm_eval_Call,Kp]
 refine ay h fun ov s₁ ⟨T,id,pa,slot,ZJ,hT,hd,hc⟩=>av ?_
 have Ut:methodCallForm (args.length+([]:List Keyword).length) (backTo pos (starEach args env)) (backToKw pos (keywordEach [] env))=true:=RX
 have WZ:methodCallPos true o env apos pos=pure pos:=by unfold methodCallPos;simp[hline]
 unfold methodCall
 rw[Ut]
 refine aJ (aA (ag (getMethod_builtin hT pa slot ZJ hd ?_)))
 exact eU WZ hc
theorem wh {st rest}{Q:Flow->Shared->Prop} (h:aL M A (exec st env) (fun f s'=>match f with | .next=>aL M A (execs rest env) Q E s' | f=>Q f s') E s):aL M A (execs (st::rest) env) Q E s:=by
 rw[execs_cons]
 refine ay h fun f s' h'=>?_
 cases f<;>first | exact h' | exact aG h'
theorem rP {x:PySem.Str}{v:Value}{Q:Unit->Shared->Prop} (h:wpAny M A (storeName env x v) Q E s):aL M A (bindName env x v) Q E s:=fun Γ p a O=>by
 rw[Sem.wp_bindName];exact h Γ p a
theorem gC {x pos' value pos}{Q:Flow->Shared->Prop} (h:aL M A (eval value env) (fun v s₁=>wpAny M A (storeName env x v) (fun O=>Q .next) E s₁) E s) (hs:swapsWith value (some (.Name x pos')) pos.line env=pure false) :
  aL M A (exec (.Assign [.Name x pos'] value pos) env) Q E s:=by
 rw[exec_Assign_Name env x pos' value pos hs]
 exact av (ay h fun v s₁ aj=>av (ay (rP aj) fun O a9 aE=>aG aE))
theorem Hp {l k:List Value}{Q:Unit->Shared->Prop} (h:Q () s):aL M A (release l k) Q E s:=fun Γ p a O=>by rw[Sem.wp_release];exact h
theorem lF {o i pos' value pos}{Q:Flow->Shared->Prop} (h:aL M A (eval value env) (fun v s₁=>aL M A (eval o env) (fun ov a9=>aL M A (eval i env) (fun iv dJ=>wpAny M A (setItem ov iv v) (fun O=>Q .next) E dJ) E a9) E s₁) E s)
  (hs:swapsWith value (some (.Subscript o i pos')) pos.line env=pure false):aL M A (exec (.Assign [.Subscript o i pos'] value pos) env) Q E s:=by
 rw[exec_Assign_Subscript o i pos' value pos hs]
 refine av (ay h fun v s₁ aj=>?_)
 rw[assign_Subscript]
 refine aJ (ay (aA aj) fun ov a9 aE=>ay (aA aE) fun iv dJ bG=>av (ay (aA (ag bG)) fun O Bt cV=>Hp (aG cV)))
theorem n8 {x pos' op value pos}{Q:Flow->Shared->Prop} (h:wpAny M A (loadName env x) (fun old s₁=>aL M A (eval value env) (fun v a9=>wpAny M A (inplaceOp op old v) (fun r dJ=>wpAny M A (storeName env x r) (fun O=>Q .next) E dJ) E a9) E s₁) E s) :
  aL M A (exec (.AugAssign (.Name x pos') op value pos) env) Q E s:=by
 rw[exec_AugAssign_Name]
 exact av (ay (ag h) fun old s₁ aj=>ay (aA aj) fun v a9 aE=>av (ay (j5 (ag aE)) fun r dJ bG=>av (ay (rP bG) fun O Bt cV=>aG cV)))
theorem Kq {e pos}{Q:Flow->Shared->Prop} (h:aL M A (eval e env) (fun v=>Q (.ret v)) E s):aL M A (exec (.Return (some e) pos) env) Q E s:=by
 rw[exec_Return_some]
 exact av (ay h fun v s₁ aj=>aG aj)
theorem W0 {test body orelse pos}{Q:Flow->Shared->Prop} (h:aL M A (isTrue test env (eval test env)) (fun b a9=>if b then aL M A (execs body env) Q E a9 else aL M A (execs orelse env) Q E a9) E s):aL M A (exec (.If test body orelse pos) env) Q E s:=by
 rw[exec_If]
 refine av (ay h fun b a9 aE=>?_)
 cases b
 ·exact aE
 ·exact aE
theorem OI {test body orelse pos}{Q:Flow->Shared->Prop} (h:b9 M A (.whileLoop test body orelse env) (fun r s'=>match r with | .ok f=>Q f s' | .error e=>cameBackBy M A env E e s') s):aL M A (exec (.While test body orelse pos) env) Q E s:=by
 rw[exec_While]
 exact av (mF h)
theorem Uu {target iter body orelse pos}{Q:Flow->Shared->Prop} (h:aL M A (eval iter env) (fun x s₁=>wpAny M A (pyIter x) (fun it a9=>b9 M A (.forLoop target it body orelse env) (fun r s'=>match r with | .ok f=>Q f s' | .error e=>cameBackBy M A env E e s') a9) E s₁) E s)
  (hs:∀ x,foldedSetIterable iter env x=pure x):aL M A (exec (.For target iter body orelse pos) env) Q E s:=by
 rw[exec_For]
 exact av (ay h fun x s₁ aj=>eU (hs x) (av (ay (aA (ag aj)) fun it a9 aE=>mF aE)))
theorem Hq {body orelse:Sem Flow}{h₀:ExceptHandler}{hs:List ExceptHandler}{Q:Flow->Shared->Prop}
  (h:aL M A body (fun f s₁=>match f with | .next=>aL M A orelse Q E s₁ | f=>Q f s₁) (fun e s₁=>wpAny M A (noteFrame e env) (fun O a9=>wpAny M A (setFlight e none) (fun O dJ=>aL M A (handleBy e env (h₀::hs)) Q E dJ) E a9) E s₁) s) :
  aL M A (tryStmt false body (h₀::hs) orelse [] env) Q E s:=by
 refine aJ (m:=body.attempt) (uH (jw h (fun f s₁ aj=>?_) fun e s₁ aj=>?_))
 ·cases f<;>first | exact aj | exact aG aj
 ·exact ay (ag aj) fun O a9 aE=>aJ (ag aE)
theorem Uv {body orelse:List Stmt}{h₀:ExceptHandler}{hs:List ExceptHandler}{pos:Pos}{Q:Flow->Shared->Prop}
  (h:aL M A (execs body env) (fun f s₁=>match f with | .next=>aL M A (execs orelse env) Q E s₁ | f=>Q f s₁) (fun e s₁=>wpAny M A (noteFrame e env) (fun O a9=>wpAny M A (setFlight e none) (fun O dJ=>aL M A (handleBy e env (h₀::hs)) Q E dJ) E a9) E s₁) s) :
  aL M A (exec (.Try body (h₀::hs) orelse [] pos) env) Q E s:=by
 rw[arm_exec_Try]
 exact av (Hq h)
theorem Bu {e:Value}{t:Expr}{body:List Stmt}{pos:Pos}{rest:List ExceptHandler}{Q:Flow->Shared->Prop}
  (h:b9 M (A.mark (some e)) (.handlers e [.ExceptHandler (some t) none [] pos] env) (fun r s₁=>match r with
   | .ok .brk=>b9 M (A.mark (some e)) (.handlers e [.ExceptHandler none none body pos] env) (fun r a9=>match r with | .ok f=>Q f a9 | .error x=>cameBackBy M A env E x a9) s₁
   | .ok _=>aL M A (handleBy e env rest) Q E s₁
   | .error x=>cameBackBy M A env E x s₁) s) (RQ:e≠byPass):aL M A (handleBy e env (.ExceptHandler (some t) none body pos::rest)) Q E s:=by
 rw[handleBy]
 have Uw:(some e:Option Value)≠some byPass:=fun x=>RQ (Option.some.inj x)
 refine aJ (aA (mF (wc h fun r s₁ aj=>?_) Uw))
 cases r with
 | error x=>exact aj
 | ok f=>
  cases f with
  | brk=>
   refine eU rfl ?_
   show aL M A (if (!true)=true then _ else _) Q E s₁
   rw[if_neg (by decide)]
   exact aJ (aA (mF (wc aj fun r a9 aE=>by
    cases r with
    | error x=>exact aE
    | ok f=>exact aG aE) Uw))
  | _=>
   refine eU rfl ?_
   show aL M A (if (!false)=true then _ else _) Q E s₁
   rw[if_pos (by decide)]
   exact aj
end
section
variable {prog:Program}{w:World}{A:Around}{E:Value->Shared->Prop}{R:Result->Shared->Prop}{s:Shared}{env:Env}
theorem Bv {e pos}{Q:Flow->Shared->Prop} (h:aL (model prog w) A (eval e env) (fun O=>Q .next) E s) (hi:interactive env=false) (hs:swapsWith e none pos.line env=pure false):aL (model prog w) A (exec (.Expr e pos) env) Q E s:=by
 rw[exec_Expr env e pos hi hs]
 exact av (ay h fun v s' h'=>(ag (wpAny_dropValue h')))
theorem OJ {e:Value}{Hr:Stmt}{body:List Stmt}{pos:Pos} (h:wpAny (model prog w) A (setFlight e none) (fun O s₁=>aL (model prog w) A (execs (Hr::body) env) (fun f a9=>R (.ok f) a9) (notedBy (model prog w) A env fun x a9=>R (.error x) a9) s₁) (notedBy (model prog w) A env fun x s₁=>R (.error x) s₁) s) :
  b9 (model prog w) A (.handlers e [.ExceptHandler none none (Hr::body) pos] env) R s:=by
 refine jx rfl ?_
 show aL _ A (do return Fin.done (<- (handleWith e env [.ExceptHandler none none (Hr::body) pos]).onRaise (fun x=>do noteFrame x env;theTreesLotGoes x))) _ _ s
 refine aJ (qc ?_)
 exact av (ay (ag h) fun O s₁ aj=>jw aj (fun f a9 aE=>aG aE) fun O O x=>x)
theorem yz {test body} (I:Nat->Shared->Prop)
  (turn:∀ n s,I n s->aL (model prog w) A (isTrue test env (eval test env)) (fun b a9=>
    if b then aL (model prog w) A (execs body env) (fun f dJ=>match f with | .next | .cont=>∃ m,m<n/\I m dJ | .brk=>R (.ok .next) dJ | .ret v=>R (.ok (.ret v)) dJ) (notedBy (model prog w) A env fun e s'=>R (.error e) s') a9
    else R (.ok .next) a9) (notedBy (model prog w) A env fun e s'=>R (.error e) s') s)
  (n:Nat) (h:I n s):b9 (model prog w) A (.whileLoop test body [] env) R s:=by
 refine Bp rfl rfl I (fun n s hI=>?_) n h
 show aL _ A ((whileTurn test body [] env).onRaise (fun x=>do noteFrame x env;theTreesLotGoes x)) _ _ s
 refine qc ?_
 delta whileTurn
 refine ay (turn n s hI) fun b a9 aE=>?_
 cases b with
 | false=>
  rw[if_neg Bool.false_ne_true] at aE ⊢
  refine aJ (ag (wpAny_execs_nil ?_))
  exact aG aE
 | true=>
  rw[if_pos rfl] at aE ⊢
  refine ay aE fun f dJ bG=>?_
  cases f with
  | next=>exact aG (.inl ⟨rfl,bG⟩)
  | cont=>exact aG (.inl ⟨rfl,bG⟩)
  | brk=>exact aG bG
  | ret v=>exact aG bG
theorem Hs {target it body} (I:Nat->Shared->Prop)
  (turn:∀ n s,I n s->wpAny (model prog w) A (pyNext it) (fun r s₁=>match r with
   | none=>R (.ok .next) s₁
   | some v=>wpAny (model prog w) A (assign target env v) (fun O a9=>aL (model prog w) A (execs body env) (fun f dJ=>match f with | .next | .cont=>∃ m,m<n/\I m dJ | .brk=>R (.ok .next) dJ | .ret v=>R (.ok (.ret v)) dJ)
     (notedBy (model prog w) A env fun e s'=>R (.error e) s') a9) (notedBy (model prog w) A env fun e s'=>R (.error e) s') s₁) (notedBy (model prog w) A env fun e s'=>R (.error e) s') s)
  (n:Nat) (h:I n s) (ht:∀ v,letOwnedTupleGo target it v=pure ():=by intro _;rfl):b9 (model prog w) A (.forLoop target it body [] env) R s:=by
 refine Bp rfl rfl I (fun n s hI=>?_) n h
 show aL _ _ ((forTurn target it body [] env).onRaise (fun x=>do noteFrame x env;theTreesLotGoes x)) _ _ s
 refine qc ?_
 delta forTurn
 refine av (aJ (ag (wpAny_onRaise (wpAny_mono (turn n s hI) (fun r s₁ aj=>?_) fun O O h'=>wpAny_standAt h'))))
 cases r with
 | none=>exact aG (.inr ⟨rfl,(cg (codeAny_block (wpAny_execs_nil aj)))⟩)
 | some v=>
  refine eU (ht v) (ay (ag aj) fun O a9 aE=>ay aE fun f dJ bG=>?_)
  cases f with
  | next=>exact aG (.inl ⟨rfl,bG⟩)
  | cont=>exact aG (.inl ⟨rfl,bG⟩)
  | brk=>exact aG bG
  | ret v=>exact aG bG
theorem Kr {body} (h:aL (model prog w) (A.deeper env) (execs body env) (fun f s'=>R (.ok (.ret (match f with | .ret v=>v | _=>.none))) s')
   (fun e s'=>wpAny (model prog w) (A.deeper env) (leaving env e) (fun O wa=>R (.error e) wa) (fun e' wa=>R (.error e') wa) s') s):b9 (model prog w) A (.func body env) R s:=by
 refine jx rfl ?_
 show aL _ (A.deeper env) (do point;match <- (execs body env).onRaise (leaving env) with | .ret v=>ret v | _=>ret .none) _ _ s
 refine aJ (ag (wpAny_point ?_))
 refine aJ (j4 (jw h (fun f s' h'=>?_) fun O O h'=>h'))
 cases f<;>exact aG h'
theorem iS {a:Addr}{args:Args}{o:Obj}{fd:FuncData}{body:List Stmt} (yA:A.depth<recursionLimit) (ho:s.heap.get? a=some o) (kF:o.data=.func fd) (Ux:fd.scope.isCoroutine=false) (Ks:fd.scope.isGenerator=false)
  (yB:fd.body=.stmts body) (Rl:s.heap.CodeRec fd.code fd.qualname)
  (h:wpAny (model prog w) A.in1 (bindArgs fd args) (fun binds s₁=>wpAny (model prog w) A.in1 (newFunctionEnv fd.scope fd.globals fd.closure binds (fd.qualname++".<locals>.") (some a) fd.code none fd.builtins)
    (fun env a9=>a9.heap.NoLimit/\b9 (model prog w) A (.func body env) R a9) (fun e s'=>R (.error e) s') s₁) (fun e s'=>R (.error e) s') s):b9 (model prog w) A (.call (.ref a) args) R s:=by
 refine jx rfl ?_
 show aL _ A.in1 (callAny (.ref a) args) _ _ s
 refine aJ (ag (wpAny_load ho ?_))
 refine kR Rl fun c oc vs tq zz=>iZ zz fun hc Yk V3 hq=>?_
 rw[kF]
 show aL _ A.in1 (callFunction a fd args) _ _ s
 rw[hc] at h
 delta callFunction
 rw[Ux,Ks,yB,hc]
 refine aJ (m:=field (.ref c) 1) (ag (wpAny_field Yk V3 hq (eU rfl ?_)))
 exact ay (ag h) fun binds s₁ aj=>ay (ag aj) fun env a9 aE=>aJ (ag (wpAny_enterFrame (A:=A.in1) aE.1 yA (aG (And.intro rfl aE.2))))
theorem Bw {a:Addr}{o:Obj}{fd:FuncData}{body:List Stmt}{args:Args}{binds:List (PySem.Str × Value)} (yA:A.depth<recursionLimit) (ho:s.heap.get? a=some o) (Kt:o.data=.func fd) (j9:s.heap.NoLimit) (Rl:s.heap.CodeRec fd.code fd.qualname)
  (yB:fd.body=.stmts body) (mI:BindsTo s fd args binds) (dv:∀ x∈fd.scope.names,x.2≠.cell) (pL:∀ x∈binds,fd.scope.names.lookup x.1=some .local)
  (h:∀ h₀,h₀.Ns s.heap.objs.size (fun x=>binds.reverse.lookup x)->(∀ b o,s.heap.get? b=some o->h₀.get? b=some o)->
   aL (model prog w) (A.deeper (callEnv fd s.heap.objs.size a)) (execs body (callEnv fd s.heap.objs.size a)) (fun f s'=>R (.ok (.ret (match f with | .ret v=>v | _=>.none))) s')
    (fun e s'=>wpAny (model prog w) (A.deeper (callEnv fd s.heap.objs.size a)) (leaving (callEnv fd s.heap.objs.size a) e) (fun O wa=>R (.error e) wa) (fun e' wa=>R (.error e') wa) s') { s with heap:=h₀,toks:=s.toks+binds.length })
  (Ux:fd.scope.isCoroutine=false) (Ks:fd.scope.isGenerator=false) (hk:fd.scope.kind=.function):b9 (model prog w) A (.call (.ref a) args) R s:=by
 refine iS yA ho Kt Ux Ks yB Rl (mI _ _ _ _ ?_)
 refine wpAny_newFunctionEnv dv pL (fun h₀ RZ Ku=>⟨j9.fresh _ Ku,Kr (h h₀ RZ fun b o e=>?_)⟩) hk
 exact Ku.extBut b o (Nat.ne_of_lt (Heap.lt_size e)) (Heap.get?_push_of_some _ e)
theorem mJ {a:Addr}{o:Obj}{fd:FuncData}{body:List Stmt}{vals:List Value}{binds:List (PySem.Str × Value)} (yA:A.depth<recursionLimit) (ho:s.heap.get? a=some o) (Kt:o.data=.func fd) (j9:s.heap.NoLimit) (Rl:s.heap.CodeRec fd.code fd.qualname)
  (yB:fd.body=.stmts body) (mI:bindArgs fd ⟨vals,[]⟩=pure binds) (W4:fd.closure=[])
  (ef:∀ x∈binds,fd.scope.names.lookup x.1=some .local∨(fd.scope.names.lookup x.1=some .cell/\((cellsFrom (s.heap.objs.size+1) fd.scope.names []).lookup x.1).isSome=true))
  (h:∀ s₁,InCallC s (callEnvC fd s.heap.objs.size a).locals (bindL (callEnvC fd s.heap.objs.size a).kindOf binds fun O=>none) (callEnvC fd s.heap.objs.size a).cells (bindC (callEnvC fd s.heap.objs.size a).kindOf binds fun O=>none) s₁->
   aL (model prog w) (A.deeper (callEnvC fd s.heap.objs.size a)) (execs body (callEnvC fd s.heap.objs.size a)) (fun f s'=>R (.ok (.ret (match f with | .ret v=>v | _=>.none))) s')
    (fun e s'=>wpAny (model prog w) (A.deeper (callEnvC fd s.heap.objs.size a)) (leaving (callEnvC fd s.heap.objs.size a) e) (fun O wa=>R (.error e) wa) (fun e' wa=>R (.error e') wa) s') s₁)
  (Ux:fd.scope.isCoroutine=false) (Ks:fd.scope.isGenerator=false) (hk:fd.scope.kind=.function):b9 (model prog w) A (.call (.ref a) ⟨vals,[]⟩) R s:=by
 refine iS yA ho Kt Ux Ks yB Rl ?_
 rw[mI,W4]
 refine wpAny_pure (wpAny_newFunctionEnv_cells hk ef fun env he s' x=>?_)
 subst he
 exact⟨j9.keeps x.toInCall.keep,Kr (h s' x)⟩
end
open Sem (wp)
section
variable {M:Model}{A:Around}{E:Value->Shared->Prop}{s:Shared}{env:Env}
theorem Ht {α:Type}{c:Prop} [Decidable c] {pos:Pos}{k:PUnit->Sem α}{Q:α->Shared->Prop} (h:aL M A (k ()) Q E s):aL M A (if c then (standAt pos >>= k) else k ()) Q E s:=by
 split
 ·exact av h
 ·exact h
theorem pM {elt target iter:Expr}{ifs:List Expr}{scope:Scope}{Uy pos:Pos}{first:Sem Value}{cl:List (PySem.Str × Addr)}{use:Option (Value->Sem Unit)}{Q:Value->Shared->Prop}
  (hs:∀ x,foldedSetIterable iter env x=pure x) (Kv:closureFor scope env=pure cl) (ef:scope.kind=.function) (lG:∀ x∈scope.names,x.2=.local->scope.names.lookup x.1=some .local)
  (h:aL M A first (fun x s₁=>wpAny M A (pyIter x) (fun it a9=>wpAny M A (newList []) (fun acc dJ=>wpAny M A (newFunctionEnv scope env.globals cl [] env.qual none .none (some env)) (fun cenv Bt=>
    b9 M A (.compStart (.ListComp elt [⟨target,iter,ifs,0⟩] scope Uy) 0 it acc { cenv with scope:=relabel scope env }) (compPost M A E use Q acc cenv.locals) Bt) E dJ) E a9) E s₁) E s) :
  aL M A (comprehension (.ListComp elt [⟨target,iter,ifs,0⟩] scope Uy) scope env pos (newList []) false first use) Q E s:=by
 unfold comprehension
 rw[Kv]
 refine ay h fun x s₁ aj=>av (eU (hs x) (ay (aA (ag aj)) fun it a9 aE=>Ht (ay (ag aE) fun acc dJ bG=>eU rfl (ay (ag bG) fun cenv Bt cV=>?_))))
 ·dsimp only
  have Bx:∀ l:List (PySem.Str × NameKind),(∀ x∈l,x∈(scope.names.filter fun x=>(x.2 == .local||x.2 == .cell)&&x.1 != (".0":PySem.Str)))->∀ x∈l,x.2=.local->Env.kindOf { cenv with scope:=relabel scope env } x.1=some .local:=
   fun l hl x hx hk=>lookup_relabel_local (lG x (List.mem_filter.mp (hl x hx)).1 hk)
  refine aA (aJ (uH (aA (Qp (wc cV fun r s' hr=>?_)))))
  cases r with
  | ok f=>
   cases use with
   | none=>
    refine Exists.elim hr fun m zz=>aC zz fun hn hr=>?_
    exact aJ (aA (ag (wpAny_comp_letGo (cenv:={ cenv with scope:=relabel scope env }) ef _ s' m (Bx _ fun x hx=>List.mem_reverse.mp hx) hn fun h' m' O nO=>aG (hr h' nO))))
   | some u=>
    refine aJ (ag (wpAny_rule (ay (aA (ag hr)) fun _ wa ⟨m,hn,S5⟩=>?_)))
    exact aJ (ag (wpAny_comp_letGo (cenv:={ cenv with scope:=relabel scope env }) ef _ wa m (Bx _ fun x hx=>by
     rcases List.mem_append.mp hx with q | q
     ·exact List.mem_reverse.mp (List.mem_of_mem_drop q)
     ·exact List.mem_reverse.mp (List.mem_of_mem_take q)) hn fun h' m' O nO=>aG (S5 h' nO)))
  | error x=>
   have S5:∃ m,s'.heap.Ns cenv.locals m/\∀ h',Heap.SameBut cenv.locals s'.heap h'->∀ Qq:Env,Qq.locals=cenv.locals->wpAny M A (passOn "comprehension.variables-let-go" x Qq:Sem Value) (fun O O=>False) E { s' with heap:=h' }:=by cases use<;>exact hr
   refine Exists.elim S5 fun m zz=>aC zz fun hn hr=>?_
   exact aJ (aA (ag (wpAny_comp_letGo (cenv:={ cenv with scope:=relabel scope env }) ef _ s' m (Bx _ fun x hx=>List.mem_reverse.mp hx) hn fun h' m' O nO=>jw (ag (hr h' nO _ rfl)) (fun O O f=>f.elim) fun O O y=>y)))
end
section
variable {prog:Program}{w:World}{A:Around}{E:Value->Shared->Prop}{R:Result->Shared->Prop}{s:Shared}{env:Env}
theorem yC {elt target iter ifs scope pos it acc}
  (h0:b9 (model prog w) A (.compLoop (.ListComp elt [⟨target,iter,ifs,0⟩] scope pos) 0 it acc env) R s)
  (h:wpAny (model prog w) A (pyIter it) (fun R3 s'=>b9 (model prog w) A (.compLoop (.ListComp elt [⟨target,iter,ifs,0⟩] scope pos) 0 R3 acc env) R s') (notedBy (model prog w) A env fun x s'=>R (.error x) s') s) :
  b9 (model prog w) A (.compStart (.ListComp elt [⟨target,iter,ifs,0⟩] scope pos) 0 it acc env) R s:=by
 refine jx rfl ?_
 show aL _ _ ((compStart (.ListComp elt [⟨target,iter,ifs,0⟩] scope pos) 0 it acc env).onRaise (fun x=>do noteFrame x env;standAt theWindowsPlace)) _ _ s
 refine Hn ?_
 show aL _ _ (ask >>= _) _ _ s
 refine aJ (ag (wpAny_askSetting ?_))
 split
 ·exact aG ⟨rfl,h0⟩
 ·refine aJ (ag (wpAny_rule ?_))
  exact av (ay (ag h) fun R3 s' h'=>aG ⟨rfl,h'⟩)
theorem yD {Q:Bool->Shared->Prop} (h:Q true s):aL (model prog w) A (forIn ([]:List Expr) true fun c r=>if r=true then do let ok <- isTrue c env (eval c env);pure (ForInStep.yield ok) else pure (ForInStep.yield r)) Q E s:=aG h
theorem yE {c:Expr}{Q:Bool->Shared->Prop} (h:aL (model prog w) A (isTrue c env (eval c env)) Q E s) :
  aL (model prog w) A (forIn [c] true fun c r=>if r=true then do let ok <- isTrue c env (eval c env);pure (ForInStep.yield ok) else pure (ForInStep.yield r)) Q E s:=by
 simp only[List.forIn_cons,List.forIn_nil,if_true]
 exact aJ (ay h fun b s' hb=>aG (aG hb))
theorem By {elt target iter:Expr}{ifs:List Expr}{scope:Scope}{pos:Pos}{it acc:Value} (I:Nat->Shared->Prop)
  (turn:∀ n s,I n s->wpAny (model prog w) A (pyNext it) (fun r s₁=>match r with
   | none=>R (.ok .next) s₁
   | some v=>wpAny (model prog w) A (assign target env v) (fun O a9=>
     aL (model prog w) A (forIn ifs true fun c r=>if r=true then do let ok <- isTrue c env (eval c env);pure (ForInStep.yield ok) else pure (ForInStep.yield r)) (fun ok dJ=>
      if ok=true then aL (model prog w) A (eval elt env) (fun x Bt=>wpAny (model prog w) A (call (.builtin "list.append") [acc,x]) (fun O Uz=>∃ m,m<n/\I m Uz) (notedBy (model prog w) A env fun e s'=>R (.error e) s') Bt) (notedBy (model prog w) A env fun e s'=>R (.error e) s') dJ
      else ∃ m,m<n/\I m dJ) (notedBy (model prog w) A env fun e s'=>R (.error e) s') a9) (notedBy (model prog w) A env fun e s'=>R (.error e) s') s₁) (notedBy (model prog w) A env fun e s'=>R (.error e) s') s)
  (n:Nat) (h:I n s) (ht:∀ v,letOwnedTupleGo target it v=pure ():=by intro _;rfl):b9 (model prog w) A (.compLoop (.ListComp elt [⟨target,iter,ifs,0⟩] scope pos) 0 it acc env) R s:=by
 refine Bp rfl rfl I (fun n s hI=>?_) n h
 show aL _ A ((compTurn (.ListComp elt [⟨target,iter,ifs,0⟩] scope pos) 0 it acc env).onRaise (fun x=>do noteFrame x env;theTreesLotGoes x)) _ _ s
 refine qc ?_
 rw[compTurn_list]
 refine av (ay (ag (turn n s hI)) fun r s₁ aj=>?_)
 cases r with
 | none=>exact aG aj
 | some v=>
  refine eU (ht v) (ay (ag aj) fun O a9 aE=>ay aE fun ok dJ bG=>?_)
  cases ok with
  | false=>exact aG (.inl ⟨rfl,bG⟩)
  | true=>exact aJ (ay bG fun x Bt cV=>ay (ag cV) fun O Uz wi=>aG (aG (.inl ⟨rfl,wi⟩)))
end
section
variable (prog:Program) (w:World) (base:Heap) (cl:dC->Value)
def kM (A:Around) (X:Addr->Prop) (fr:Bool) (t:Sem Value) (s:Shared) (r:R V):Prop:=
 ∀ Q E,Po base cl X fr s r Q E->r≠.stuck->aL (model prog w) A t Q E s
def W5 (A:Around) (X:Addr->Prop) (t:Sem (List Value)) (s:Shared) (r:R (List V)):Prop:=
 ∀ Q E,RN base cl X s r Q E->r≠.stuck->aL (model prog w) A t Q E s
def OL (A:Around) (t:Sem Bool) (s:Shared) (r:R Bool):Prop:=
 ∀ Q E,Qo base cl s r Q E->r≠.stuck->aL (model prog w) A t Q E s
end
section
variable {prog:Program}{w:World}{base:Heap}{cl:dC->Value}{A:Around}{X:Addr->Prop}{s:Shared}
theorem Ev.g {fr:Bool}{t:Sem Value}{r:R V} (h:Ev prog w base cl A X fr t s r):kM prog w base cl A X fr t s r:=fun Q E p au=>(ag (h Q E p au))
theorem RP.g {t:Sem Bool}{r:R Bool} (h:RP prog w base cl A t s r):OL prog w base cl A t s r:=fun Q E p au=>(ag (h Q E p au))
theorem kM.stuck {fr:Bool}{t:Sem Value}:kM prog w base cl A X fr t s .stuck:=fun O O O h=>absurd rfl h
theorem kM.weak {fr:Bool}{t:Sem Value}{r:R V} (h:kM prog w base cl A X fr t s r):kM prog w base cl A X false t s r:=
 fun Q E p au=>h Q E ⟨fun d v h' tk e k rp O=>p.ok d v h' tk e k rp fun q=>(by contradiction),p.ex⟩ au
theorem kM.BinOp {wj:Addr->Prop}{fr Kw Kx:Bool}{l r:Expr}{op:Operator}{pos:Pos}{env:Env}{ra rb:R V}{g:V->V->R V} (hl:kM prog w base cl A wj Kw (eval l env) s ra)
  (hr:∀ h' tk,Kept base s.heap h'->kM prog w base cl A wj Kx (eval r env) { s with heap:=h',toks:=tk } rb)
  (ho:∀ x y a b h' tk,Rep (seen wj h') x a->Rep (seen wj h') y b->Kept base s.heap h'->kM prog w base cl A X fr (binaryOp op a b) { s with heap:=h',toks:=tk } (g x y)) :
  kM prog w base cl A X fr (eval (.BinOp l op r pos) env) s (ra.bind fun x=>rb.bind fun y=>g x y):=fun Q E p au=>
 OB (hl _ _ ⟨fun x a h' tk e k rp O=>by
  have aq:=R.aZ au e
  have bS:=p.step (tk:=tk) e k
  exact hr h' tk k _ _ ⟨fun y b aE bF bM k₂ gW O=>ho x y a b aE bF (k₂.rep rp) gW (k.trans k₂) Q E (bS.step bM k₂) (R.aZ aq bM),bS.ex.of⟩ (R.aN aq),p.ex.of⟩ (R.aN au))
theorem kM.Compare {wj:Addr->Prop}{fr Kw Kx:Bool}{l r:Expr}{op:CmpOp}{pos:Pos}{env:Env}{ra rb:R V}{g:V->V->R V} (hl:kM prog w base cl A wj Kw (eval l env) s ra)
  (hm:behindInMarks op r=false)
  (hr:∀ h' tk,Kept base s.heap h'->kM prog w base cl A wj Kx (eval r env) { s with heap:=h',toks:=tk } rb)
  (ho:∀ x y a b h' tk,Rep (seen wj h') x a->Rep (seen wj h') y b->Kept base s.heap h'->kM prog w base cl A X fr (compareOp op a b) { s with heap:=h',toks:=tk } (g x y)) :
  kM prog w base cl A X fr (eval (.Compare l [op] [r] pos) env) s (ra.bind fun x=>rb.bind fun y=>g x y):=fun Q E p au=>
 Bs (hl _ _ ⟨fun x a h' tk e k rp O=>by
  have aq:=R.aZ au e
  have bS:=p.step (tk:=tk) e k
  exact hr h' tk k _ _ ⟨fun y b aE bF bM k₂ gW O=>ho x y a b aE bF (k₂.rep rp) gW (k.trans k₂) Q E (bS.step bM k₂) (R.aZ aq bM),bS.ex.of⟩ (R.aN aq),p.ex.of⟩ (R.aN au)) hm
theorem kM.guard {fr:Bool}{t:Sem Value}{c:Bool}{r:R V} (h:c=true->kM prog w base cl A X fr t s r):kM prog w base cl A X fr t s (R.guard c r):=by
 unfold R.guard
 split
 ·exact h (by assumption)
 ·exact .stuck
end
theorem bD {X:Addr->Prop}{h:Heap} (i:Int) (t:Tok):Rep (seen X h) (.int i) (.int i t):=by skip;exact⟨t,rfl⟩
theorem ew {X:Addr->Prop}{h:Heap} (b:Bool):Rep (seen X h) (.bool b) (.bool b):=by rw[Ki]
theorem rQ {X:Addr->Prop}{h:Heap}:Rep (seen X h) .none .none:=by rw[Kh]
theorem c9 {X:Addr->Prop}{h:Heap}{x:Str}{l:List Nat} (t:Tok) (e:x.cps.toList=l) (hl:l.length<=16777216):Rep (seen X h) (.str l) (.str x t):=by skip;exact⟨x,t,rfl,e,hl⟩
theorem dH {X:Addr->Prop}{h:Heap}{x:Array UInt8}{l:List Nat} (t:Tok) (e:x.toList.map UInt8.toNat=l) (hl:l.length<=16777216):Rep (seen X h) (.bytes l) (.bytes x t):=by skip;exact⟨x,t,rfl,e,hl⟩
theorem gm {g:Addr->Obj->Prop}{i:Int}{v:Value} (r:Rep g (.int i) v):∃ t,v=.int i t:=by skip;exact r
theorem rR {g:Addr->Obj->Prop}{b:Bool}{v:Value} (r:Rep g (.bool b) v):v=.bool b:=by skip;exact r
theorem yF {g:Addr->Obj->Prop}{v:Value} (r:Rep g .none v):v=.none:=by skip;exact r
theorem fy {g:Addr->Obj->Prop}{l:List Nat}{v:Value} (r:Rep g (.str l) v):∃ x t,v=.str x t/\x.cps.toList=l/\l.length<=16777216:=by skip;exact r
theorem ei {g:Addr->Obj->Prop}{l:List Nat}{v:Value} (r:Rep g (.bytes l) v):∃ x t,v=.bytes x t/\x.toList.map UInt8.toNat=l/\l.length<=16777216:=by skip;exact r
@[elab_as_elim] theorem aQ {g:Addr->Obj->Prop}{i:Int}{M:Value->Prop}{v:Value} (r:Rep g (.int i) v) (f:∀ t,M (.int i t)):M v:=Exists.elim (gm r) fun t e=>e ▸ f t
@[elab_as_elim] theorem iG {g:Addr->Obj->Prop}{b:Bool}{M:Value->Prop}{v:Value} (r:Rep g (.bool b) v) (f:M (.bool b)):M v:=rR r ▸ f
@[elab_as_elim] theorem mK {g:Addr->Obj->Prop}{M:Value->Prop}{v:Value} (r:Rep g .none v) (f:M .none):M v:=yF r ▸ f
@[elab_as_elim] theorem cH {g:Addr->Obj->Prop}{l:List Nat}{M:Value->Prop}{v:Value} (r:Rep g (.str l) v) (f:∀ x t,x.cps.toList=l->l.length<=16777216->M (.str x t)):M v:=bW (fy r) fun x t z=>b6 z fun q e h=>q ▸ f x t e h
@[elab_as_elim] theorem aU {g:Addr->Obj->Prop}{l:List Nat}{M:Value->Prop}{v:Value} (r:Rep g (.bytes l) v) (f:∀ x t,x.toList.map UInt8.toNat=l->l.length<=16777216->M (.bytes x t)):M v:=bW (ei r) fun x t z=>b6 z fun q e h=>q ▸ f x t e h
theorem str_len {x:Str}{l:List Nat} (e:x.cps.toList=l):x.length=l.length:=by subst e;simp[Str.length]
theorem bf {x:Array UInt8}{l:List Nat} (e:x.toList.map UInt8.toNat=l):x.size=l.length:=by subst e;simp
theorem lH {x y:Str}{l m:List Nat} (e:x.cps.toList=l) (f:y.cps.toList=m):(x++y).cps.toList=l++m:=by
 subst e;subst f
 show (x.cps++y.cps).toList=_
 simp
theorem tf {n k:Nat} (h:n<2 ^ k):n.log2<=k:=by
 by_cases h0:n=0
 ·subst h0;simp
 ·exact Nat.le_of_lt ((Nat.log2_lt h0).mpr h)
theorem yG {a:Int} (h:a.natAbs<pF):Builtin.Int.intBits a<=2 ^ 20:=by
 have h1:pF<=2 ^ 16000:=by
  set_option exponentiation.threshold 20000 in
  calc 10 ^ 4000<=16 ^ 4000:=Nat.pow_le_pow_left (by decide) _
   _=2 ^ 16000:=by rw[show (16:Nat)=2 ^ 4 from rfl,<- Nat.pow_mul]
 have h2:=tf (Nat.lt_of_lt_of_le h h1)
 unfold Builtin.Int.intBits
 split
 ·lia
 ·lia
theorem rS {X:Addr->Prop}{h:Heap}{d:List V}{v:Value} (r:Rep (seen X h) (.list d) v):∃ a dd sl vs n,v=.ref a/\¬ X a/\h.get? a=some ⟨.type "list",dd,.seq vs n,sl⟩/\d.length<=16777216/\az (seen X h) d vs.toList:=by
 refine kR r fun a mw vs n zz=>DP zz fun e W6 hc hd hl rl=>?_;obtain⟨c,dd,data,sl⟩:=mw;obtain⟨ho,hX⟩:=W6
 subst hc hd
 exact⟨a,dd,sl,vs,n,e,hX,ho,hl,rl⟩
theorem uI {X:Addr->Prop}{h:Heap}{d:List V}{v:Value} (r:Rep (seen X h) (.tuple d) v):∃ a dd sl vs n,v=.ref a/\¬ X a/\h.get? a=some ⟨.type "tuple",dd,.seq vs n,sl⟩/\d.length<=16777216/\az (seen X h) d vs.toList:=by
 refine kR r fun a mw vs n zz=>DP zz fun e W6 hc hd hl rl=>?_;obtain⟨c,dd,data,sl⟩:=mw;obtain⟨ho,hX⟩:=W6
 subst hc hd
 exact⟨a,dd,sl,vs,n,e,hX,ho,hl,rl⟩
@[elab_as_elim] theorem dR {X:Addr->Prop}{h:Heap}{d:List V}{M:Value->Prop}{v:Value} (r:Rep (seen X h) (.list d) v) (f:∀ a dd sl vs n,¬ X a->h.get? a=some ⟨.type "list",dd,.seq vs n,sl⟩->d.length<=16777216->az (seen X h) d vs.toList->M (.ref a)):M v:=Tr (rS r) fun a dd sl vs n z=>p4 z fun q x o l w=>q ▸ f a dd sl vs n x o l w
@[elab_as_elim] theorem jy {X:Addr->Prop}{h:Heap}{d:List V}{M:Value->Prop}{v:Value} (r:Rep (seen X h) (.tuple d) v) (f:∀ a dd sl vs n,¬ X a->h.get? a=some ⟨.type "tuple",dd,.seq vs n,sl⟩->d.length<=16777216->az (seen X h) d vs.toList->M (.ref a)):M v:=Tr (uI r) fun a dd sl vs n z=>p4 z fun q x o l w=>q ▸ f a dd sl vs n x o l w
section
variable {prog:Program}{w:World}{base:Heap}{cl:dC->Value}{A:Around}{X:Addr->Prop}{s:Shared}
def nu (X:Addr->Prop) (h:Heap):Prop:=∀ a,X a->∃ o,h.get? a=some o
theorem nu.kept {base h h':Heap} (l:nu X h) (k:Kept base h h'):nu X h':=fun a x=>let ⟨_,e⟩:=l a x;let ⟨o',e',_⟩:=k.same e;⟨o',e'⟩
theorem nu.none {h:Heap}{a:Addr} (l:nu X h) (n:h.get? a=.none):¬ X a:=fun x=>by refine Exists.elim (l a x) fun o e=>?_;rw[e] at n;contradiction
theorem bV (h:Heap):h.get? h.objs.size=none:=Heap.get?_none_of_le (Nat.le_refl _)
theorem mL {ds:List V}{vs:Array Value}{fr:Bool}{t:Sem Value} (hl:ds.length<=16777216) (hX:nu X s.heap) (r:az (seen X s.heap) ds vs.toList)
  (h:∀ (Q E:Value->Shared->Prop),(∀ tk,Q (.ref s.heap.objs.size) { s with heap:=s.heap.push { cls:=.type "list",data:=.seq vs },toks:=tk })->wpAny (model prog w) A t Q E s) :
  Ev prog w base cl A X fr t s (.ok (.list ds)):=.val fun Q E hQ=>h Q E fun tk=>by
 have k:=Kept.push base s.heap { cls:=.type "list",data:=.seq vs }
 have e:(s.heap.push { cls:=.type "list",data:=.seq vs }).get? s.heap.objs.size=some { cls:=.type "list",data:=.seq vs }:=Heap.get?_push_size _ rfl
 have own:bE (s.heap.push { cls:=.type "list",data:=.seq vs }) X s.heap.objs.size (.list ds):=⟨_,vs,0,e,rfl,rfl,rfl,hl,k.kb (r.fresh (bV _))⟩
 exact hQ _ _ _ k (own.rep (hX.none (bV _))) fun O=>⟨_,rfl,bV _,own⟩
theorem az.replicate {g:Addr->Obj->Prop}{d:List V}{v:List Value} (r:az g d v):∀ n:Nat,az g (List.replicate n d).flatten (List.replicate n v).flatten:=by
 intro z0
 induction z0 with
 | zero=>exact  az.nil
 | succ n ih=>
  rw[List.replicate_succ,List.replicate_succ,List.flatten_cons,List.flatten_cons]
  exact r.append (ih)
noncomputable def QQ.op:QQ->Operator
 | .add=>.Add
 | .sub=>.Sub
 | .mul=>.Mult
 | .fdiv=>.FloorDiv
 | .mod=>.Mod
 | .pow=>.Pow
theorem iW {α β:Type} (f:α->β) (n:Nat) (l:List α):((List.replicate n l).flatten).map f=(List.replicate n (l.map f)).flatten:=by
 rw[List.map_flatten,List.map_replicate]
theorem mM {α:Type} (n:Nat) (l:List α):(List.replicate n l).flatten.length=n*l.length:=by simp
set_option tactic.hygienic true in
theorem R4 (hX:nu X s.heap) (op:QQ) {x y:V}{a b:Value} (rx:Rep (seen X s.heap) x a) (ry:Rep (seen X s.heap) y b) :
  Ev prog w base cl A X true (binaryOp op.op a b) s (sP op x y):=by
 cases op<;>cases x<;>(try exact Ev.stuck)<;>cases y<;>try exact Ev.stuck
 ·
  refine aQ rx fun t=>?_
  refine aQ ry fun u=>?_
  exact Ev.flat (fun O O O=>trivial) fun Q E hQ=>add_int (hQ _ _ (bD _ _))
 ·
  refine cH rx fun x t e O=>?_
  refine cH ry fun y u f O=>?_
  refine Ev.guard fun g=>Ev.flat (fun O O O=>trivial) fun Q E hQ=>have:=of_decide_eq_true g;PyProof.Rows.add_str (fun t' tk=>hQ _ _ (c9 _ (lH e f) (by rw[List.length_append];unfold lim at this;lia))) ?_
  have:=of_decide_eq_true g
  rw[str_len e,str_len f,sizeLine_eq]
  unfold lim at this;lia
 ·
  refine aU rx fun x t e O=>?_
  refine aU ry fun y u f O=>?_
  refine Ev.guard fun g=>Ev.flat (fun O O O=>trivial) fun Q E hQ=>have:=of_decide_eq_true g;KBy.add_bytes ?_ (fun t' tk=>hQ _ _ (dH _ (by subst e;subst f;simp) (by rw[List.length_append];unfold lim at this;lia)))
  have:=of_decide_eq_true g
  rw[bf e,bf f]
  unfold lim at this;lia
 ·
  refine dR rx fun a dd sl vs n UA ho NQ r1=>?_
  refine dR ry fun b UB Iv ws n' Wb lB A0 r2=>?_
  refine Ev.guard fun g=>mL (vs:=vs++ws) (by have:=of_decide_eq_true g;rw[List.length_append];unfold lim at this;lia) hX (by rw[Array.toList_append];exact r1.append r2) fun Q E hQ=>?_
  have:=of_decide_eq_true g
  refine concat_meets ⟨_,ho,rfl⟩ ⟨_,lB,rfl⟩ noFill_list_add seq_list_add PySem.F.slot_list_add PySem.F.entry_list_add (PySem.F.args_list_add_2 _ _) (list_addW a b vs ws n n' dd UB sl Iv ?_) ⟨ho,lB,hQ s.toks⟩
  have e1:=r1.length
  have e2:=r2.length
  rw[Array.length_toList] at e1 e2
  rw[e1,e2,sizeLine_eq]
  unfold lim at this;lia
 ·refine aQ rx fun t=>?_
  refine aQ ry fun u=>?_
  exact Ev.flat (fun O O O=>trivial) fun Q E hQ=>sub_int' (hQ _ _ (bD _ _))
 ·refine aQ rx fun t=>?_
  refine aQ ry fun u=>?_
  refine Ev.guard fun g=>Ev.flat (fun O O O=>trivial) fun Q E hQ=>PyProof.Rows.mul_int (hQ _ _ (bD _ _)) ?_
  rw[Bool.and_eq_true] at g
  exact IntMulOk.of_bits (yG (of_decide_eq_true g.1)) (yG (of_decide_eq_true g.2))
 ·
  obtain⟨x,t,rfl,e,-⟩:=ei rx
  refine Exists.elim (gm ry) fun u aw=>?_;subst aw
  refine Ev.guard fun g=>Ev.flat (fun O O O=>trivial) fun Q E hQ=>?_
  obtain⟨l⟩:=x
  dsimp only at e
  rename_i i
  simp only[Bool.and_eq_true,decide_eq_true_eq] at g
  have hl:l.length=1:=by rw[<- g.1.1,<- e,List.length_map]
  refine bytes_mul_any (b:=l) (n:=i) ?_ ?_ ?_ ?_ fun t' k=>hQ _ _ (dH _ ?_ ?_)
  ·intro q;rw[q] at hl;contradiction
  ·lia
  ·lia
  ·lia
  ·rw[iW,e]
  ·rw[mM,g.1.1];lia
 ·
  refine dR rx fun a dd sl vs n UA ho NQ r1=>?_
  refine aQ ry fun u=>?_
  rename_i x
  refine Ev.guard fun g=>?_
  simp only[Bool.and_eq_true,decide_eq_true_eq] at g
  have hl:vs.size=1:=by have:=r1.length;rw[Array.length_toList] at this;lia
  refine mL (vs:=(List.replicate x.toNat vs.toList).flatten.toArray) (by rw[mM,g.1.1];lia) hX (r1.replicate _) fun Q E hQ=>?_
  refine wpAny_binaryOp_repeat_ref (T:="list") (U:="int") (by decide) ⟨_,ho,rfl⟩ (fun s'=>typeIs_int s' x u) noFill_list_mul PySem.F.fills_int_mul PySem.F.slot_int_rmul repeat_list PySem.F.slot_int_index.lookup
   (call_meets PySem.F.slot_int_rmul (typeIs_int s x u) PySem.F.entry_int_rmul (PySem.F.args_int_rmul_2 _ _) (lm_int_rmul_list_any x u a vs n dd sl)
    ⟨ho,rfl,⟨_,ho,rfl⟩,call_meets PySem.F.slot_list_mul ⟨_,ho,rfl⟩ PySem.F.entry_list_mul (PySem.F.args_list_mul_2 _ _)
     (lm_list_mul_any a vs n dd sl x u (by simp[Builtin.List.listFitsIndex];lia) (by rw[hl];lia) (by simp[Builtin.List.listTooLong,sizeLine,hl];lia))
     ⟨ho,?_⟩⟩)
  have:=hQ s.toks
  obtain⟨l⟩:=vs
  rw[listMul_foldl_if]
  exact this
 ·refine aQ rx fun t=>?_
  refine aQ ry fun u=>?_
  refine Ev.guard fun g=>Ev.flat (fun O O O=>trivial) fun Q E hQ=>PyProof.Rows.floordiv_int ?_ (hQ _ _ (bD _ _)) (Or.inl (PyProof.noPylong_small ?_))
  ·simp at g;lia
  ·simp at g;lia
 ·refine aQ rx fun t=>?_
  refine aQ ry fun u=>?_
  refine Ev.guard fun g=>Ev.flat (fun O O O=>trivial) fun Q E hQ=>PyProof.Rows.mod_int' ?_ (hQ _ _ (bD _ _))
  simp at g;lia
 ·refine aQ rx fun t=>?_
  refine aQ ry fun u=>?_
  refine Ev.guard fun g=>Ev.flat (fun O O O=>trivial) fun Q E hQ=>PyProof.Rows.pow_int ?_ ?_ (hQ _ _ (bD _ _))
  ·simp at g;lia
  ·simp only[Bool.and_eq_true,decide_eq_true_eq] at g
   rename_i a b
   have h1:Builtin.Int.intBits a<=101:=by
    unfold Builtin.Int.intBits
    split
    ·lia
    ·have:=Nat.log2_le_self a.natAbs;lia
   have h2:(Builtin.Int.intBits a:Int)*b<=101*100:=Int.mul_le_mul (by lia) g.2 g.1.2 (by decide)
   lia
noncomputable def PY.op:PY->CmpOp
 | .eq=>.Eq
 | .ne=>.NotEq
 | .lt=>.Lt
 | .le=>.LtE
 | .gt=>.Gt
 | .ge=>.GtE
 | .is=>.Is
 | .lT=>.IsNot
 | .isIn=>.In
theorem gn {α:Type} [BEq α] [LawfulBEq α] [DecidableEq α] (a b:α):(a == b)=decide (a=b):=by
 by_cases h:a=b
 ·simp[h]
 ·rw[decide_eq_false h];simpa using h
theorem gD {a b:Array UInt8} (h:a.toList.map UInt8.toNat=b.toList.map UInt8.toNat):a.toList=b.toList:=by
 have:∀ {l m:List UInt8},l.map UInt8.toNat=m.map UInt8.toNat->l=m:=by
  intro l
  induction l with
  | nil=>intro m h;cases m with | nil=>rfl | cons _ _=>contradiction
  | cons x l ih=>
   intro m h
   cases m with
   | nil=>contradiction
   | cons y m=>
    simp only[List.map_cons,List.cons.injEq] at h
    rw[ih h.2,UInt8.toNat_inj.mp h.1]
 exact this h
inductive Te:V->V->Bool->Prop
 | bool (a b:Bool):Te (.bool a) (.bool b) (decide (a=b))
 | int (a b:Int):Te (.int a) (.int b) (decide (a=b))
 | str (a b:List Nat):Te (.str a) (.str b) (decide (a=b))
 | bytes (a b:List Nat):Te (.bytes a) (.bytes b) (decide (a=b))
theorem Dl (x y:V):tG x y=.stuck∨∃ k,tG x y=.ok k/\Te x y k:=by
 cases x<;>cases y<;>first | exact .inl rfl | exact .inr ⟨_,rfl,.bool _ _⟩ | exact .inr ⟨_,rfl,.int _ _⟩ | exact .inr ⟨_,rfl,.str _ _⟩ | exact .inr ⟨_,rfl,.bytes _ _⟩
theorem rT {x y:V}{k:Bool} (h:tG x y=.ok k):Te x y k:=by
 rcases Dl x y with e | ⟨aaQ,e,v⟩
 ·rw[e] at h;contradiction
 ·rw[e] at h;injection h with h;exact h ▸ v
theorem wk {x y:V}{r:R Bool} (h:V.eq x y=r):(∃ xs ys,x=.list xs/\y=.list ys/\(if xs.length=ys.length then kW xs ys else .ok false)=r)∨(∃ xs ys,x=.tuple xs/\y=.tuple ys/\(if xs.length=ys.length then kW xs ys else .stuck)=r)∨tG x y=r:=by
 cases x with
 | list xs=>
  cases y with
  | list ys=>exact .inl ⟨_,_,rfl,rfl,h⟩
  | _=>exact .inr (.inr h)
 | tuple xs=>
  cases y with
  | tuple ys=>exact .inr (.inl ⟨_,_,rfl,rfl,h⟩)
  | _=>exact .inr (.inr h)
 | _=>exact .inr (.inr h)
open PySem.SeqAt in
theorem Hu {x y:V}{a b:Value}{k:Bool}{g:Addr->Obj->Prop} (e:tG x y=.ok k) (rx:Rep g x a) (ry:Rep g y b):EqAt A s a b k:=by
 cases rT e with
 | bool a b=>
  refine iG rx ?_
  refine iG ry ?_
  intro prog w E Q h
  refine wpAny_holding ?_
  refine wpAny_ite_split (fun Ws=>?_) (fun Ws=>?_)
  ·have:a=b:=by have:=eq_of_beq Ws;injection this
   simp only[this,decide_true] at h
   exact wpAny_bind (wpAny_rule (wpAny_pure h))
  ·refine wpAny_bind (PyProof.Rows.eq_bool (c:=a) (d:=b) ?_)
   refine wpAny_truthy_bool ?_
   have:(a == b)=decide (a=b):=by cases a<;>cases b<;>rfl
   rw[this];exact h
 | int a b=>
  refine aQ rx fun t=>?_
  refine aQ ry fun u=>?_
  intro prog w E Q h
  exact wpAny_eqBool_int h
 | str a b=>
  refine cH rx fun x t e1 O=>?_
  refine cH ry fun y u e2 O=>?_
  intro prog w E Q h
  refine wpAny_eqBool_str ?_
  have:decide (x=y)=decide (x.cps.toList=y.cps.toList):=by
   obtain⟨⟨l⟩⟩:=x;obtain⟨⟨m⟩⟩:=y;simp
  rw[this,e1,e2];exact h
 | bytes a b=>
  refine aU rx fun x t e1 O=>?_
  refine aU ry fun y u e2 O=>?_
  intro prog w E Q h
  refine eqBool_bytes ?_
  have:decide (x.toList=y.toList)=decide (x.toList.map UInt8.toNat=y.toList.map UInt8.toNat):=by
   by_cases q:x.toList=y.toList
   ·simp[q]
   ·rw[decide_eq_false q,decide_eq_false fun z=>q (gD z)]
  rw[this,e1,e2];exact h
theorem jz:∀ {xs ys:List V}{k:Bool},kW xs ys=.ok k->∃ e:Nat->Bool,(∀ i x y,xs[i]?=some x->ys[i]?=some y->tG x y=.ok (e i))/\(List.range xs.length).all e=k/\xs.length=ys.length
 | [],[],k,h=>⟨fun O=>true,fun i x y h=>by simp at h,by cases h;rfl,rfl⟩
 | x::xs,y::ys,k,h=>by
  rw[lV] at h
  cases hf:tG x y with
  | ok b=>
   rw[hf] at h
   cases hs:kW xs ys with
   | ok c=>
    rw[hs] at h
    refine Exists.elim (jz hs) fun e zz=>b6 zz fun h1 h2 h3=>?_
    refine⟨fun i=>match i with | 0=>b | i+1=>e i,fun i x' y' q1 q2=>?_,?_,by simp[h3]⟩
    ·cases i with
     | zero=>simp at q1 q2;subst q1;subst q2;exact hf
     | succ i=>simp at q1 q2;exact h1 i x' y' q1 q2
    ·injection h with h;subst h
     rw[List.length_cons,List.range_succ_eq_map,List.all_cons,List.all_map,<- h2]
     rfl
   | exc _=>rw[hs] at h;contradiction
   | stuck=>rw[hs] at h;contradiction
  | exc _=>rw[hf] at h;contradiction
  | stuck=>rw[hf] at h;contradiction
 | [],_::_,_,h=>by contradiction
 | _::_,[],_,h=>by contradiction
open PySem.SeqAt in
theorem iH {g:Addr->Obj->Prop}{xs ys:List V}{vs ws:Array Value}{e:Nat->Bool} (h:∀ i x y,xs[i]?=some x->ys[i]?=some y->tG x y=.ok (e i)) (r1:az g xs vs.toList) (r2:az g ys ws.toList) :
  ∀ aaQ (h1:aaQ<vs.size) (h2:aaQ<ws.size),EqAt A s vs[aaQ] ws[aaQ] (e aaQ):=fun aaQ h1 h2=>by
 have l1:=r1.length
 have l2:=r2.length
 rw[Array.length_toList] at l1 l2
 have e1:xs[aaQ]?=some xs[aaQ]:=by rw[List.getElem?_eq_getElem]
 have e2:ys[aaQ]?=some ys[aaQ]:=by rw[List.getElem?_eq_getElem]
 refine Exists.elim (r1.get e1) fun v zz=>aC zz fun q1 s1=>?_
 refine Exists.elim (r2.get e2) fun u zz=>aC zz fun q2 s2=>?_
 have ZK:vs[aaQ]=v:=by simpa [h1] using q1
 have ZL:ws[aaQ]=u:=by simpa [h2] using q2
 rw[ZK,ZL]
 exact Hu (h aaQ _ _ e1 e2) s1 s2
open PySem.SeqAt in
theorem OO {x y:V}{a b:Value}{k:Bool}{g:Addr->Obj->Prop} (e:tG x y=.ok k) (rx:Rep g x a) (ry:Rep g y b) {Q E:Value->Shared->Prop} (h:Q (.bool k) s):wpAny (model prog w) A (compareOp .Eq a b) Q E s:=by
 cases rT e with
 | bool a b=>
  refine iG rx ?_
  refine iG ry ?_
  refine PyProof.Rows.eq_bool ?_
  have:(a == b)=decide (a=b):=by cases a<;>cases b<;>rfl
  rw[this];exact h
 | int a b=>
  refine aQ rx fun t=>?_
  refine aQ ry fun u=>?_
  refine PyProof.Rows.eq_int ?_
  have:(a == b)=decide (a=b):=by rw[gn]
  rw[this];exact h
 | str a b=>
  obtain⟨x,t,rfl,e1,-⟩:=fy rx
  obtain⟨y,u,rfl,e2,-⟩:=fy ry
  refine PySem.P.eq_str ?_
  rw[e1,e2]
  have:(a == b)=decide (a=b):=by rw[gn]
  rw[this];exact h
 | bytes a b=>
  refine aU rx fun x t e1 O=>?_
  refine aU ry fun y u e2 O=>?_
  refine PySem.W.eq_bytes ?_
  have:(x.toList == y.toList)=decide (x.toList.map UInt8.toNat=y.toList.map UInt8.toNat):=by
   by_cases q:x.toList=y.toList
   ·simp[q]
   ·rw[decide_eq_false fun z=>q (gD z)];simpa using q
  rw[this,e1,e2];exact h
theorem Bz {x y:V}{a b:Value}{k:Bool}{g:Addr->Obj->Prop} (e:tG x y=.ok k) (rx:Rep g x a) (ry:Rep g y b) {Q E:Value->Shared->Prop} (h:Q (.bool !k) s):wpAny (model prog w) A (compareOp .NotEq a b) Q E s:=by
 cases rT e with
 | bool a b=>
  refine iG rx ?_
  refine iG ry ?_
  refine PyProof.Rows.ne_bool ?_
  have:(a != b)=!decide (a=b):=by cases a<;>cases b<;>rfl
  rw[this];exact h
 | int a b=>
  refine aQ rx fun t=>?_
  refine aQ ry fun u=>?_
  refine PyProof.Rows.ne_int ?_
  have:(a != b)=!decide (a=b):=by rw[bne,gn]
  rw[this];exact h
 | str a b=>
  obtain⟨x,t,rfl,e1,-⟩:=fy rx
  obtain⟨y,u,rfl,e2,-⟩:=fy ry
  refine PySem.P.ne_str ?_
  rw[e1,e2]
  have:(a != b)=!decide (a=b):=by rw[bne,gn]
  rw[this];exact h
 | bytes a b=>
  refine aU rx fun x t e1 O=>?_
  refine aU ry fun y u e2 O=>?_
  refine PySem.W.ne_bytes ?_
  have:(x.toList != y.toList)=!decide (x.toList.map UInt8.toNat=y.toList.map UInt8.toNat):=by
   by_cases q:x.toList=y.toList
   ·simp[q]
   ·rw[decide_eq_false fun z=>q (gD z)];simpa using q
  rw[this,e1,e2];exact h
theorem bH {h:Heap}{a:Addr}{dd:Option Addr}{sl:Array (Option Value)}{vs:Array Value}{n:Nat} (e:h.get? a=some ⟨.type "list",dd,.seq vs n,sl⟩):h.IsList a vs:=⟨_,e,rfl,n,rfl⟩
theorem fU {h:Heap}{a:Addr}{dd:Option Addr}{sl:Array (Option Value)}{vs:Array Value}{n:Nat} (e:h.get? a=some ⟨.type "tuple",dd,.seq vs n,sl⟩):h.IsTuple a vs:=⟨_,e,rfl,n,rfl⟩
theorem UC (hu:A.units+100<cLine) {x y:V}{a b:Value}{k:Bool} (e:V.eq x y=.ok k) (rx:Rep (seen X s.heap) x a) (ry:Rep (seen X s.heap) y b) {Q E:Value->Shared->Prop} (h:Q (.bool k) s):wpAny (model prog w) A (compareOp .Eq a b) Q E s:=by
 have R5:A.units<cLine:=by lia
 have e':=wk e;clear e
 rcases e' with ⟨xs,ys,rfl,rfl,e⟩ | ⟨xs,ys,rfl,rfl,e⟩ | e
 ·refine dR rx fun a dd sl vs n UA ho NQ r1=>?_
  refine dR ry fun b UB Iv ws n' Wb lB A0 r2=>?_
  have l1:=r1.length
  have l2:=r2.length
  rw[Array.length_toList] at l1 l2
  split at e
  ·refine Exists.elim (jz e) fun f zz=>b6 zz fun h1 h2 h3=>?_
   refine PySem.SeqAt.eq_listAt (bH ho) (bH lB) (by lia) R5 (iH h1 r1 r2) ?_
   rw[l1,h2];exact h
  ·injection e with e;subst e
   refine PySem.SeqAt.eq_list_lengthsAt (bH ho) (bH lB) ?_ R5 h
   simpa [l1,l2] using ‹_›
 ·refine jy rx fun a dd sl vs n UA ho NQ r1=>?_
  refine jy ry fun b UB Iv ws n' Wb lB A0 r2=>?_
  have l1:=r1.length
  have l2:=r2.length
  rw[Array.length_toList] at l1 l2
  split at e
  ·refine Exists.elim (jz e) fun f zz=>b6 zz fun h1 h2 h3=>?_
   refine PySem.SeqAt.eq_tupleAt (fU ho) (fU lB) R5 (iH h1 r1 r2) ?_
   rw[l1,l2,h3,Nat.min_self,<- h3,h2]
   simpa using h
  ·contradiction
 ·exact OO e rx ry h
theorem UD (hu:A.units+100<cLine) {x y:V}{a b:Value}{k:Bool} (e:V.eq x y=.ok k) (rx:Rep (seen X s.heap) x a) (ry:Rep (seen X s.heap) y b) {Q E:Value->Shared->Prop} (h:Q (.bool !k) s):wpAny (model prog w) A (compareOp .NotEq a b) Q E s:=by
 have R5:A.units<cLine:=by lia
 have e':=wk e;clear e
 rcases e' with ⟨xs,ys,rfl,rfl,e⟩ | ⟨xs,ys,rfl,rfl,e⟩ | e
 ·refine dR rx fun a dd sl vs n UA ho NQ r1=>?_
  refine dR ry fun b UB Iv ws n' Wb lB A0 r2=>?_
  have l1:=r1.length
  have l2:=r2.length
  rw[Array.length_toList] at l1 l2
  split at e
  ·refine Exists.elim (jz e) fun f zz=>b6 zz fun h1 h2 h3=>?_
   refine PySem.SeqAt.RcNeAt.lists (bH ho) (bH lB) (by lia) R5 (iH h1 r1 r2) prog w E Q ?_
   rw[l1,h2];exact h
  ·injection e with e;subst e
   refine PySem.SeqAt.RcNeAt.lists_lengths (bH ho) (bH lB) ?_ R5 prog w E Q h
   simpa [l1,l2] using ‹_›
 ·refine jy rx fun a dd sl vs n UA ho NQ r1=>?_
  refine jy ry fun b UB Iv ws n' Wb lB A0 r2=>?_
  have l1:=r1.length
  have l2:=r2.length
  rw[Array.length_toList] at l1 l2
  split at e
  ·refine Exists.elim (jz e) fun f zz=>b6 zz fun h1 h2 h3=>?_
   refine PySem.SeqAt.RcNeAt.tuples (fU ho) (fU lB) R5 (iH h1 r1 r2) prog w E Q ?_
   rw[l1,l2,h3,Nat.min_self,<- h3,h2]
   simpa using h
  ·contradiction
 ·exact Bz e rx ry h
theorem rU {x y:V}{z:dC} (q:tG x y=.exc z):False:=by
 rcases Dl x y with e | ⟨k,e,_⟩<;>rw[e] at q<;>contradiction
theorem jA:∀ {xs ys:List V}{z:dC},kW xs ys=.exc z->False
 | [],[],_,q=>by contradiction
 | [],_::_,_,q=>by contradiction
 | _::_,[],_,q=>by contradiction
 | x::xs,y::ys,z,q=>by
  rw[lV] at q
  cases h1:tG x y with
  | ok b=>
   rw[h1] at q
   cases h2:kW xs ys with
   | ok c=>rw[h2] at q;contradiction
   | exc w=>exact jA h2
   | stuck=>rw[h2] at q;contradiction
  | exc w=>exact rU h1
  | stuck=>rw[h1] at q;contradiction
theorem uJ {x y:V}{z:dC} (e:V.eq x y=.exc z):False:=by
 have e':=wk e;clear e
 rcases e' with ⟨xs,ys,rfl,rfl,e⟩ | ⟨xs,ys,rfl,rfl,e⟩ | e
 ·split at e
  ·exact jA e
  ·contradiction
 ·split at e
  ·exact jA e
  ·contradiction
 ·exact rU e
theorem o7 {g:Addr->Obj->Prop}{x:V}{a:Value} (r:Rep g x a) (h:x≠.none):a≠.none:=by
 intro q
 subst q
 cases x with
 | none=>exact h rfl
 | bool b=>cases rR r
 | int b=>refine Exists.elim (gm r) fun O e=>?_;contradiction
 | str b=>obtain⟨_,_,e,_,-⟩:=fy r;contradiction
 | bytes b=>obtain⟨_,_,e,_,-⟩:=ei r;contradiction
 | cj b=>skip;refine kR r fun O O O O zz=>aC zz fun e O=>?_;contradiction
 | list b=>skip;refine kR r fun O O O O zz=>aC zz fun e O=>?_;contradiction
 | tuple b=>skip;refine kR r fun O O O O zz=>aC zz fun e O=>?_;contradiction
theorem n9:typeLookup (.type "bytes") "__index__"=pure none:=by rw[typeLookup_type,builtinLookup_eq_fast];kernel_rfl
theorem tg {x:Array UInt8}{t:Tok}{base:Heap}{Q:Int->Shared->Prop}{E:Value->Shared->Prop} (hh:cB A s.heap)
  (h:∀ e h' tk,Kept base s.heap h'->E (.ref e) { s with heap:=h',toks:=tk }):wpAny (model prog w) A (asIndex (.bytes x t)) Q E s:=by
 refine wpAny_bind (m:=asInt? (.bytes x t)) (wpAny_pure ?_)
 refine wpAny_bind (wpAny_callSpecial?_none (typeIs_bytes s x t) n9 ?_)
 refine wpAny_bind (m:=typeNameOfCut 200 (.bytes x t)) (wpAny_of_eq (a:="bytes") (by kernel_rfl) ?_)
 exact n7 hh Bo Km (by decide) (by decide) (by decide +kernel) fun e h' tk k O=>h e h' tk k
theorem jB (b:Array UInt8) (c:UInt8) (i:Nat):(b.extract i (i+1) == #[c])=decide (b[i]?=some c):=by
 rw[gn]
 congr 1
 apply propext
 constructor
 ·intro h
  have h2:(b.extract i (i+1))[0]?=some c:=by rw[h];rfl
  rw[Array.getElem?_extract] at h2
  split at h2
  ·simpa using h2
  ·contradiction
 ·intro h
  refine Exists.elim (Array.getElem?_eq_some_iff.mp h) fun hV e=>?_
  apply Array.ext
  ·simp;lia
  ·intro k h1 h2
   have hk:k=0:=by simp at h2;lia
   subst hk
   simp[e]
theorem Ky (b:Array UInt8) (c:UInt8):(Builtin.Bytes.find? b #[c] 0 b.size).isSome=b.toList.contains c:=by
 unfold Builtin.Bytes.find?
 rw[Bool.eq_iff_iff,List.find?_isSome]
 simp only[List.contains_iff_mem]
 constructor
 ·rintro ⟨i,_,hi⟩
  have Tf:(b.extract i (i+1) == #[c])=true:=hi
  rw[jB,decide_eq_true_eq] at Tf
  exact Array.mem_toList_iff.mpr (Array.mem_of_getElem? Tf)
 ·intro h
  obtain⟨i,hV,e⟩:=Array.mem_iff_getElem.mp (Array.mem_toList_iff.mp h)
  refine⟨i,?_,?_⟩
  ·refine List.mem_map.mpr ⟨i,List.mem_range.mpr ?_,by simp⟩
   show i<b.size+1 - (0+1)
   lia
  ·show (b.extract i (i+1) == #[c])=true
   rw[jB,decide_eq_true_eq,Array.getElem?_eq_getElem hV,e]
theorem mO {x:Array UInt8}{c:Nat} (e:x.toList.map UInt8.toNat=[c]):∃ k:UInt8,x=#[k]/\k.toNat=c:=by
 obtain⟨l⟩:=x
 cases l with
 | nil=>cases e
 | cons k r=>cases r with
  | nil=>simp at e;exact⟨k,rfl,e⟩
  | cons _ _=>cases e
theorem rV {y:List UInt8}{k:UInt8}:(y.map UInt8.toNat).contains k.toNat=y.contains k:=by
 rw[Bool.eq_iff_iff,List.contains_iff_mem,List.contains_iff_mem,List.mem_map]
 constructor
 ·rintro ⟨a,h,e⟩;rw[<- UInt8.toNat_inj.mp e];exact h
 ·intro h;exact⟨k,h,rfl⟩
theorem Kz {base:Heap}{c:Nat}{l:List Nat}{x y:Array UInt8}{t u:Tok}{Q E:Value->Shared->Prop} (hh:cB A s.heap) (e1:x.toList.map UInt8.toNat=[c]) (e2:y.toList.map UInt8.toNat=l)
  (h:∀ h' tk,Kept base s.heap h'->Q (.bool (l.contains c)) { s with heap:=h',toks:=tk }):wpAny (model prog w) A (compareOp .In (.bytes x t) (.bytes y u)) Q E s:=by
 refine Exists.elim (mO e1) fun k zz=>aC zz fun aw gS=>?_;clear zz;subst aw;subst gS
 subst e2
 show wpAny _ _ (do return .bool (<- contains (.bytes y u) (.bytes #[k] t))) Q E s
 refine wpAny_bind (wpAny_contains_slot (typeIs_bytes s y u) FB.slot_bytes_contains (wpAny_call_entry FB.slot_bytes_contains (typeIs_bytes s y u) FB.entry_bytes_contains ?_ (FB.args_bytes_contains_2 _ _)))
 show wpAny _ _ (Builtin.Bytes.containsIn "bytes.__contains__" (.bytes y u) (.bytes #[k] t) >>= fun r=>ret (.bool r)) _ _ s
 refine wpAny_bind ?_
 refine wpAny_bind (wpAny_attempt (tg (base:=base) (A:=A.in1) hh fun e h' tk kp=>?_))
 refine wpAny_bind (wpAny_of_eq KBy.buffer_eq ?_)
 refine wpAny_bind (wpAny_of_eq KBy.buffer_eq ?_)
 refine wpAny_bind (wpAny_rule (wpAny_pure (wpAny_pure ⟨_,rfl,wpAny_pure (wpAny_pure ?_)⟩)))
 rw[Ky,<- rV]
 exact h h' tk kp
theorem uK {y:V} (h:y.isNone=true):y=.none:=by cases y<;>first | rfl | contradiction
theorem Qr {x y:V} (h:y.isNone=false):pG .is x y=.stuck/\pG .lT x y=.stuck:=by cases y<;>first | (contradiction;done) | (cases x<;>exact⟨rfl,rfl⟩)
theorem is_none {x:V}:pG .is x .none=.ok (.bool x.isNone)/\pG .lT x .none=.ok (.bool !x.isNone):=by cases x<;>exact⟨rfl,rfl⟩
set_option tactic.hygienic true in
theorem KC (hh:cB A s.heap) (hu:A.units+100<cLine) (op:PY) {x y:V}{a b:Value} (rx:Rep (seen X s.heap) x a) (ry:Rep (seen X s.heap) y b) :
  Ev prog w base cl A X true (compareOp op.op a b) s (pG op x y):=by
 have ok:∀ {t:Sem Value}{k:Bool},(∀ Q E:Value->Shared->Prop,Q (.bool k) s->wpAny (model prog w) A t Q E s)->Ev prog w base cl A X true t s (.ok (.bool k)):=
  fun h=>Ev.flat (fun O O O=>trivial) fun Q E hQ=>h Q E (hQ _ _ (ew _))
 cases op
 ·show Ev prog w base cl A X true _ s ((V.eq x y).bind fun k=>.ok (.bool k))
  cases e:V.eq x y with
  | ok k=>exact ok fun Q E h=>UC hu e rx ry h
  | exc _=>exact (uJ e).elim
  | stuck=>exact Ev.stuck
 ·show Ev prog w base cl A X true _ s ((V.eq x y).bind fun k=>.ok (.bool !k))
  cases e:V.eq x y with
  | ok k=>exact ok fun Q E h=>UD hu e rx ry h
  | exc _=>exact (uJ e).elim
  | stuck=>exact Ev.stuck
 ·cases x<;>(try exact Ev.stuck)<;>cases y<;>try exact Ev.stuck
  refine aQ rx fun t=>?_
  refine aQ ry fun u=>?_
  exact ok fun Q E h=>PyProof.Rows.lt_int h
 ·cases x<;>(try exact Ev.stuck)<;>cases y<;>try exact Ev.stuck
  refine aQ rx fun t=>?_
  refine aQ ry fun u=>?_
  exact ok fun Q E h=>PyProof.Rows.le_int h
 ·cases x<;>(try exact Ev.stuck)<;>cases y<;>try exact Ev.stuck
  refine aQ rx fun t=>?_
  refine aQ ry fun u=>?_
  exact ok fun Q E h=>PyProof.Rows.gt_int h
 ·cases x<;>(try exact Ev.stuck)<;>cases y<;>try exact Ev.stuck
  refine aQ rx fun t=>?_
  refine aQ ry fun u=>?_
  exact ok fun Q E h=>PyProof.Rows.ge_int h
 ·cases hy:y.isNone with
  | false=>rw[(Qr hy).1];exact Ev.stuck
  | true=>
  obtain rfl:=uK hy
  refine mK ry ?_
  rw[is_none.1]
  refine ok fun Q E h=>?_
  cases x with
  | none=>refine mK rx ?_;exact wpAny_is_self rfl h
  | _=>exact PyProof.Rows.is_none_ne (o7 rx (by intro q;contradiction)) h
 ·cases hy:y.isNone with
  | false=>rw[(Qr hy).2];exact Ev.stuck
  | true=>
  obtain rfl:=uK hy
  refine mK ry ?_
  rw[is_none.2]
  refine ok fun Q E h=>?_
  cases x with
  | none=>refine mK rx ?_;exact wpAny_isNot_self rfl h
  | _=>exact PyProof.Rows.isnot_none_ne (o7 rx (by intro q;contradiction)) h
 ·cases x<;>try exact Ev.stuck
  rename_i l
  cases l with
  | nil=>exact Ev.stuck
  | cons c l=>
  cases l with
  | cons _ _=>exact Ev.stuck
  | nil=>
  cases y<;>try exact Ev.stuck
  refine aU rx fun x t e1 O=>?_
  refine aU ry fun y u e2 O=>?_
  exact Ev.val fun Q E hQ=>Kz hh e1 e2 fun h' tk k=>hQ _ _ _ k (ew _) fun O=>trivial
end
theorem BC:firstArgMember (.type "StopIteration") []=pure .none:=by first | rfl | (simp only[firstArgMember];rfl)
section
variable {prog:Program}{w:World}{base:Heap}{A:Around}{E:Value->Shared->Prop}{s:Shared}
theorem cB.touch {h h':Heap}{it:Addr}{o:Obj}{vs:Array Value} (x:cB A h) (ho:h.get? it=some o) (hd:o.data=.fields vs) (hz:vs.size<=2) (k:∀ b,b≠it->h'.get? b=h.get? b):cB A h':=by
 rcases x with x | ⟨a,n,x,c⟩
 ·exact .inl x
 ·refine .inr ⟨a,n,x,c.keeps fun m b ob O cb eb O O=>(k b fun q=>?_).trans eb⟩
  subst q
  refine eR cb.get fun o' ZG v' zz=>DP zz fun e' O O kF h2 O=>?_
  rw[ho] at e';obtain rfl:=Option.some.inj e'
  rw[hd] at kF;obtain rfl:=Data.fields.inj kF
  have:=(Array.getElem?_eq_some_iff.mp h2).1
  omega
theorem rW {α:Type}{it:Addr}{aj:Heap}{Q:Option Value->Shared->Prop}{Q':α->Shared->Prop} (hh:cB A aj) (hb:Heap.ExtBut it s.heap aj)
  (hQ:∀ h',Heap.ExtBut it s.heap h'->Q none { s with heap:=h' }) :
  wpAny (model prog w) A.in1 (do let e <- newExc (.type "StopIteration") [];raiseNew e:Sem α) Q'
   (fun e s'=>wpAny (model prog w) A (do if <- isInstance e (.type "StopIteration") then pure none else throw e:Sem (Option Value)) Q E s') { s with heap:=aj }:=by
 refine wpAny_bind (uG BC rfl (by decide) fun h' e t hk hn he=>?_)
 refine jv (base:=s.heap) (h₀:=aj) (s:={ s with heap:=h' }) (A:=A.in1) hh (.of_keeps hk) he rfl (by simp) (by simp) rfl rfl rfl hn fun Mk S9 hx=>?_
 obtain⟨_,_,oe,_,e1,e2,_⟩:=hx
 refine wpAny_bind (wpAny_isInstance (T:="StopIteration") (b:=true) ⟨oe,e1,e2⟩ isSubtype_stop ?_)
 refine wpAny_pure (hQ _ fun b ob mP q=>?_)
 have UE:=hb b ob mP q
 exact S9 b ob (fun z=>by rw[z,hn] at UE;contradiction) (hk b ob UE)
theorem oa {α:Type}{tag:String}{it:Addr}{o:Obj}{vs:Array Value}{x:Value}{Q:Option Value->Shared->Prop}{Q':α->Shared->Prop} (hh:cB A s.heap) (ho:s.heap.get? it=some o) (hd:o.data=.fields vs) (h0:0<vs.size) (hz:vs.size<=2)
  (hQ:∀ h',Heap.ExtBut it s.heap h'->Q none { s with heap:=h' }) :
  wpAny (model prog w) A.in1 (do rule tag;setField (.ref it) 0 x;let e <- newExc (.type "StopIteration") [];raiseNew e:Sem α) Q'
   (fun e s'=>wpAny (model prog w) A (do if <- isInstance e (.type "StopIteration") then pure none else throw e:Sem (Option Value)) Q E s') s:=
 wpAny_bind (wpAny_rule (wpAny_bind (wpAny_setField ho hd h0 (rW (hh.touch ho hd hz fun b hb=>Heap.get?_update_other _ _ (Ne.symm hb)) (Heap.SameBut.update ..).extBut hQ))))
theorem kO {it l:Addr}{i:Nat}{items:Array Value}{Q:Option Value->Shared->Prop} (hh:cB A s.heap)
  (hit:s.heap.IsListIter it l i) (hl:s.heap.IsList l items) (hx:items[i]?=none)
  (hQ:∀ h',Heap.ExtBut it s.heap h'->Q none { s with heap:=h' }):wpAny (model prog w) A (pyNext (.ref it)) Q E s:=by
 refine Exists.elim (id hit) fun o zz=>b6 zz fun ho hc hd=>?_
 obtain⟨ol,UG,_,nl,S6⟩:=hl
 refine wpAny_bind (wpAny_attempt (wpAny_callSpecial?_slot (name:=Str.ofString "__next__") hit.typeIs slot_listiter_next
  (wpAny_call_entry slot_listiter_next hit.typeIs entry_listiter_next ?_ (args_listiter_next _))))
 show wpAny _ _ (field (.ref it) 0 >>= _) _ _ s
 refine wpAny_bind (wpAny_field ho hd (x:=.ref l) rfl ?_)
 show wpAny _ _ (if (Value.ref l == Value.none)=true then _ else _) _ _ s
 rw[if_neg (show ¬ ((Value.ref l == Value.none)=true) from Bool.false_ne_true)]
 show wpAny _ _ (field (.ref it) 1 >>= _) _ _ s
 refine wpAny_bind (wpAny_field ho hd (x:=.int i 0) rfl ?_)
 show wpAny _ _ (seqItems? (.ref l) >>= _) _ _ s
 refine wpAny_bind (wpAny_seqItems UG S6 ?_)
 simp only[Int.toNat_natCast,hx]
 exact oa hh ho hd (by simp) (by simp) hQ
theorem next_tuple_end {it t:Addr}{i:Nat}{items:Array Value}{Q:Option Value->Shared->Prop} (hh:cB A s.heap)
  (hit:s.heap.IsTupleIter it t i) (ht:s.heap.IsTuple t items) (hx:items[i]?=none)
  (hQ:∀ h',Heap.ExtBut it s.heap h'->Q none { s with heap:=h' }):wpAny (model prog w) A (pyNext (.ref it)) Q E s:=by
 refine Exists.elim (id hit) fun o zz=>b6 zz fun ho hc hd=>?_
 obtain⟨ol,UG,_,nl,S6⟩:=ht
 refine wpAny_bind (wpAny_attempt (wpAny_callSpecial?_slot (name:=Str.ofString "__next__") hit.typeIs PySem.F.slot_tuple_iterator_next
  (wpAny_call_entry PySem.F.slot_tuple_iterator_next hit.typeIs PySem.F.entry_tuple_iterator_next ?_ (PySem.F.args_tuple_iterator_next_1 _))))
 show wpAny _ _ (field (.ref it) 0 >>= _) _ _ s
 refine wpAny_bind (wpAny_field ho hd (x:=.ref t) rfl ?_)
 show wpAny _ _ (if (Value.ref t == Value.none)=true then _ else _) _ _ s
 rw[if_neg (show ¬ ((Value.ref t == Value.none)=true) from Bool.false_ne_true)]
 show wpAny _ _ (field (.ref it) 1 >>= _) _ _ s
 refine wpAny_bind (wpAny_field ho hd (x:=.int i 0) rfl ?_)
 show wpAny _ _ (seqItems? (.ref t) >>= _) _ _ s
 refine wpAny_bind (wpAny_seqItems UG S6 ?_)
 simp only[Int.toNat_natCast,hx]
 exact oa hh ho hd (by simp) (by simp) hQ
theorem rX {it:Addr}{b:Array UInt8}{t:Tok}{i:Nat}{Q:Option Value->Shared->Prop} (hh:cB A s.heap) (hit:KBw.IsBytesIter s.heap it b t i) (hx:b[i]?=none)
  (hQ:∀ h',Heap.ExtBut it s.heap h'->Q none { s with heap:=h' }):wpAny (model prog w) A (pyNext (.ref it)) Q E s:=by
 refine Exists.elim (id hit) fun o zz=>b6 zz fun ho hc hd=>?_
 refine wpAny_bind (wpAny_attempt (wpAny_callSpecial?_slot (name:=Str.ofString "__next__") (KBw.iter_typeIs hit) KBw.slot_next
  (wpAny_call_entry KBw.slot_next (KBw.iter_typeIs hit) KBw.entry_next ?_ (KBw.args_next _))))
 show wpAny _ _ (field (.ref it) 0 >>= _) _ _ s
 refine wpAny_bind (wpAny_field ho hd (x:=.bytes b t) rfl ?_)
 show wpAny _ _ (if (Value.bytes b t == Value.none)=true then _ else _) _ _ s
 rw[if_neg (show ¬ ((Value.bytes b t == Value.none)=true) from Bool.false_ne_true)]
 show wpAny _ _ (field (.ref it) 1 >>= _) _ _ s
 refine wpAny_bind (wpAny_field ho hd (x:=.int i 0) rfl ?_)
 refine wpAny_bind (wpAny_of_eq (a:=b) rfl ?_)
 simp only[Int.toNat_natCast,hx]
 exact oa hh ho hd (by simp) (by simp) hQ
theorem wm {it:Addr}{x:Str}{t:Tok}{i:Nat}{Q:Option Value->Shared->Prop} (hh:cB A s.heap) (hit:s.heap.IsStrIter it "str_ascii_iterator" x t i) (hx:x.cps[i]?=none)
  (hQ:∀ h',Heap.ExtBut it s.heap h'->Q none { s with heap:=h' }):wpAny (model prog w) A (pyNext (.ref it)) Q E s:=by
 refine Exists.elim (id hit) fun o zz=>b6 zz fun ho hc hd=>?_
 refine wpAny_bind (wpAny_attempt (wpAny_callSpecial?_slot (name:=Str.ofString "__next__") hit.typeIs PySem.F.slot_str_ascii_iterator_next
  (wpAny_call_entry PySem.F.slot_str_ascii_iterator_next hit.typeIs PySem.F.entry_str_ascii_iterator_next ?_ (PySem.F.args_str_ascii_iterator_next_1 _))))
 show wpAny _ _ (field (.ref it) 0 >>= _) _ _ s
 refine wpAny_bind (wpAny_field ho hd (x:=.str x t) rfl ?_)
 show wpAny _ _ (field (.ref it) 1 >>= _) _ _ s
 refine wpAny_bind (wpAny_field ho hd (x:=.int i 0) rfl ?_)
 simp only[Int.toNat_natCast,hx]
 refine wpAny_bind (wpAny_rule (wpAny_bind (wpAny_setField ho hd (by simp) (wpAny_bind (wpAny_letGo ?_)))))
 exact rW (hh.touch ho hd (by simp) fun b hb=>Heap.get?_update_other _ _ (Ne.symm hb)) (Heap.SameBut.update ..).extBut hQ
theorem rY {it:Addr}{x left step:Int}{Q:Option Value->Shared->Prop} (hh:cB A s.heap) (hit:IsRangeIter s.heap it x left step) (UH:left<=0)
  (hQ:∀ h',Heap.ExtBut it s.heap h'->Q none { s with heap:=h' }):wpAny (model prog w) A (pyNext (.ref it)) Q E s:=by
 have hT:s.TypeIs (.ref it) "range_iterator":=⟨_,hit,rfl⟩
 refine wpAny_bind (wpAny_attempt (wpAny_callSpecial?_slot (name:=Str.ofString "__next__") hT PySem.F.slot_range_iterator_next
  (wpAny_call_entry PySem.F.slot_range_iterator_next hT PySem.F.entry_range_iterator_next ?_ (PySem.F.args_range_iterator_next_1 _))))
 show wpAny _ _ (field (.ref it) 0 >>= _) _ _ s
 refine wpAny_bind (wpAny_field hit rfl (x:=rawInt x) rfl ?_)
 show wpAny _ _ (field (.ref it) 1 >>= _) _ _ s
 refine wpAny_bind (wpAny_field hit rfl (x:=rawInt left) rfl ?_)
 show wpAny _ _ (field (.ref it) 2 >>= _) _ _ s
 refine wpAny_bind (wpAny_field hit rfl (x:=rawInt step) rfl ?_)
 show wpAny _ _ (if left<=0 then _ else _) _ _ s
 rw[if_pos UH]
 refine wpAny_bind (wpAny_rule ?_)
 refine wpAny_bind ?_
 exact rW (s:=s) hh (Heap.ExtBut.refl it s.heap) hQ
end
inductive bh (h:Heap) (X:Addr->Prop) (it:Addr):List V->Prop
 | list {l:Addr}{i:Nat}{items:Array Value}{ds:List V}:h.IsListIter it l i->h.IsList l items->¬ X l->az (seen X h) ds (items.toList.drop i)->bh h X it ds
 | str {x:PySem.Str}{t:Tok}{i:Nat}:h.IsStrIter it "str_ascii_iterator" x t i->bh h X it ((x.cps.toList.drop i).map fun c=>.str [c])
 | bytes {b:Array UInt8}{t:Tok}{i:Nat}:KBw.IsBytesIter h it b t i->bh h X it ((b.toList.drop i).map fun c=>.int (c.toNat:Int))
 | range {x step:Int}{n:Nat}:IsRangeIter h it x n step->bh h X it ((List.range n).map fun (k:Nat)=>.int (x+step*(k:Int)))
structure iT (it:Addr) (h h':Heap):Prop where
 other:∀ b o,b≠it->h.get? b=some o->h'.get? b=some o
 here:∃ o vs,h.get? it=some o/\o.data=.fields vs
theorem iT.kept {base h₀ h h':Heap}{it:Addr} (t:iT it h h') (k:Kept base h₀ h) (n:h₀.get? it=none):Kept base h₀ h':=fun b o e=>by
 have hb:b≠it:=fun q=>by rw[q,n] at e;contradiction
 rcases k b o e with e' | ⟨a,c,d,sl,e'⟩
 ·exact .inl (t.other b o hb e')
 ·exact .inr ⟨a,c,d,sl,t.other b _ hb e'⟩
theorem iT.seen {h h':Heap}{it:Addr} (t:iT it h h') {X:Addr->Prop}:∀ a o,Mine.Internal.seen X h a o->uD o->Mine.Internal.seen X h' a o:=fun a o e s=>⟨t.other a o (fun q=>by
 refine bW t.here fun o' vs zz=>aC zz fun e' d=>?_
 have e1:=e.1
 rw[q,e'] at e1;injection e1 with e1;subst e1
 rcases s with ⟨_,_,c⟩ | ⟨_,_,c⟩<;>(rw[d] at c;contradiction)) e.1,e.2⟩
theorem iT.rep {h h':Heap}{it:Addr} (t:iT it h h') {X:Addr->Prop}{d:V}{v:Value} (r:Rep (Mine.Internal.seen X h) d v):Rep (Mine.Internal.seen X h') d v:=r.mono t.seen
theorem iT.kb {h h':Heap}{it:Addr} (t:iT it h h') {X:Addr->Prop}{d:List V}{v:List Value} (r:az (Mine.Internal.seen X h) d v):az (Mine.Internal.seen X h') d v:=r.mono t.seen
theorem bh.here {h:Heap}{X:Addr->Prop}{it:Addr}{ds:List V} (x:bh h X it ds):∃ o vs,h.get? it=some o/\o.data=.fields vs:=by
 cases x with
 | list y=>refine Exists.elim y fun o zz=>b6 zz fun e c d=>?_;exact⟨o,_,e,d⟩
 | str y=>refine Exists.elim y fun o zz=>b6 zz fun e c d=>?_;exact⟨o,_,e,d⟩
 | bytes y=>refine Exists.elim y fun o zz=>b6 zz fun e c d=>?_;exact⟨o,_,e,d⟩
 | range y=>exact⟨_,_,y,rfl⟩
theorem bh.kept {h h':Heap}{X:Addr->Prop}{it:Addr}{ds:List V} (x:bh h X it ds) (k:∀ a o,h.get? a=some o->(∃ vs,o.data=.fields vs)∨(uD o/\¬ X a)->h'.get? a=some o):bh h' X it ds:=by
 cases x with
 | list y l n r=>
  refine Exists.elim y fun o zz=>b6 zz fun e c d=>?_
  obtain⟨o',e',c',n',d'⟩:=l
  exact .list ⟨o,k _ _ e (.inl ⟨_,d⟩),c,d⟩ ⟨o',k _ _ e' (.inr ⟨.inl ⟨_,_,d'⟩,n⟩),c',n',d'⟩ n (r.mono fun a o e s=>⟨k _ _ e.1 (.inr ⟨s,e.2⟩),e.2⟩)
 | str y=>refine Exists.elim y fun o zz=>b6 zz fun e c d=>?_;exact .str ⟨o,k _ _ e (.inl ⟨_,d⟩),c,d⟩
 | bytes y=>refine Exists.elim y fun o zz=>b6 zz fun e c d=>?_;exact .bytes ⟨o,k _ _ e (.inl ⟨_,d⟩),c,d⟩
 | range y=>exact .range (k _ _ y (.inl ⟨_,rfl⟩))
theorem Kept.iter {base h h':Heap} (k:Kept base h h') {X:Addr->Prop}{it:Addr}{ds:List V} (x:bh h X it ds):bh h' X it ds:=x.kept fun a o e s=>by
 rcases k a o e with e' | ⟨_,c,d,_⟩
 ·exact e'
 ·rcases s with ⟨vs,q⟩ | ⟨q,_⟩
  ·exact absurd q (d vs)
  ·exact absurd c (b8 q)
theorem Kept.extBut {base h₀ h h':Heap}{a:Addr} (k:Kept base h₀ h) (n:h₀.get? a=none) (t:Heap.ExtBut a h h'):Kept base h₀ h':=fun b o e=>by
 have hb:b≠a:=fun q=>by rw[q,n] at e;contradiction
 rcases k b o e with e' | ⟨x,c,d,sl,e'⟩
 ·exact .inl (t b o hb e')
 ·exact .inr ⟨x,c,d,sl,t b _ hb e'⟩
theorem bh.less {h:Heap}{X Y:Addr->Prop}{it:Addr}{ds:List V} (x:bh h X it ds) (k:∀ a,Y a->X a):bh h Y it ds:=by
 cases x with
 | list y l n r=>exact .list y l (fun z=>n (k _ z)) (r.less k)
 | str y=>exact .str y
 | bytes y=>exact .bytes y
 | range y=>exact .range y
section
variable {prog:Program}{w:World}{A:Around}{X:Addr->Prop}{s:Shared}{E:Value->Shared->Prop}
theorem yH {it:Addr}{Q:Option Value->Shared->Prop} (hh:cB A s.heap) (x:bh s.heap X it []) (hQ:∀ h',iT it s.heap h'->Q none { s with heap:=h' }):wpAny (model prog w) A (pyNext (.ref it)) Q E s:=by
 have hr:=x.here
 generalize hd:([]:List V)=ds at x
 cases x with
 | list y l n r=>
  subst hd
  refine kO hh y l ?_ fun h' e=>hQ h' ⟨e,hr⟩
  have:=List.drop_eq_nil_iff.mp r
  simp at this ⊢;exact this
 | str y=>
  refine wm hh y ?_ fun h' e=>hQ h' ⟨e,hr⟩
  have:=List.map_eq_nil_iff.mp hd.symm
  have:=List.drop_eq_nil_iff.mp this
  simp at this ⊢;exact this
 | bytes y=>
  refine rX hh y ?_ fun h' e=>hQ h' ⟨e,hr⟩
  have:=List.map_eq_nil_iff.mp hd.symm
  have:=List.drop_eq_nil_iff.mp this
  simp at this ⊢;exact this
 | range y=>
  have:=List.map_eq_nil_iff.mp hd.symm
  rw[List.range_eq_nil] at this
  subst this
  exact rY hh y (by simp) fun h' e=>hQ h' ⟨e,hr⟩
theorem drop_cons {α:Type}{l r:List α}{i:Nat}{x:α} (e:l.drop i=x::r):l[i]?=some x/\l.drop (i+1)=r:=by
 constructor
 ·have:=congrArg List.head? e
  simpa [List.head?_drop] using this
 ·have:=congrArg List.tail e
  simpa [List.tail_drop] using this
theorem uL {it:Addr}{d:V}{ds:List V}{Q:Option Value->Shared->Prop} (x:bh s.heap X it (d::ds))
  (hQ:∀ h' tk v,iT it s.heap h'->bh h' X it ds->Rep (seen X h') d v->Q (some v) { s with heap:=h',toks:=tk }):wpAny (model prog w) A (pyNext (.ref it)) Q E s:=by
 have hr:=x.here
 generalize hd:d::ds=l at x
 cases x with
 | @list l i items _ y hl n r=>
  subst hd
  refine bW r fun v q zz=>b6 zz fun e r1 r2=>?_
  refine aC (drop_cons e) fun e1 e2=>?_
  have hit:=y
  refine wpAny_pyNext_list_item y hl (x:=v) (by rw[<- Array.getElem?_toList];exact e1) fun h' y' hs=>?_
  have t:iT it s.heap h':=⟨hs.extBut,hr⟩
  have au:l≠it:=fun q=>by
   refine Exists.elim hit fun o zz=>b6 zz fun a b c=>?_
   refine Exists.elim hl fun o' zz=>b6 zz fun a' b' c'=>?_
   rw[q,a] at a';injection a' with a';subst a';exact absurd (b.symm.trans b') (by simp)
  exact hQ h' _ v t (.list y' (hl.extBut hs.extBut au) n (by rw[e2];exact t.kb r2)) (t.rep r1)
 | @str x t i y=>
  obtain⟨c,hc⟩:∃ c,x.cps.toList.drop i=c::x.cps.toList.drop (i+1):=by
   cases q:x.cps.toList.drop i with
   | nil=>rw[q] at hd;contradiction
   | cons c r=>exact⟨c,by rw[(drop_cons q).2]⟩
  rw[hc,List.map_cons] at hd
  refine aC (List.cons.inj hd) fun aw gS=>?_;subst aw;subst gS
  refine wpAny_pyNext_ascii_item y (c:=c) (by rw[<- Array.getElem?_toList];exact (drop_cons hc).1) fun h' y' hs=>hQ h' _ _ ⟨hs.extBut,hr⟩ (.str y') (c9 _ rfl (by simp))
 | @bytes b t i y=>
  obtain⟨c,hc⟩:∃ c,b.toList.drop i=c::b.toList.drop (i+1):=by
   cases q:b.toList.drop i with
   | nil=>rw[q] at hd;contradiction
   | cons c r=>exact⟨c,by rw[(drop_cons q).2]⟩
  rw[hc,List.map_cons] at hd
  refine aC (List.cons.inj hd) fun aw gS=>?_;subst aw;subst gS
  refine KBw.next_item y (c:=c) (by rw[<- Array.getElem?_toList];exact (drop_cons hc).1) fun h' y' hs=>hQ h' _ _ ⟨hs.extBut,hr⟩ (.bytes y') (bD _ _)
 | @range a step n y=>
  cases n with
  | zero=>contradiction
  | succ n=>
   rw[List.range_succ_eq_map,List.map_cons,List.map_map] at hd
   refine aC (List.cons.inj hd) fun aw gS=>?_;subst aw;subst gS
   refine wpAny_pyNext_range_item y (by lia) fun h' y' hs=>?_
   have e:(((n+1:Nat):Int) - 1)=(n:Int):=by lia
   rw[e] at y'
   refine hQ h' _ _ ⟨hs.extBut,hr⟩ ?_ (by simpa using bD _ _)
   have:=bh.range (X:=X) y'
   refine cast (congrArg _ ?_) this
   refine List.map_congr_left fun k O=>?_
   simp[Int.mul_add]
   lia
set_option tactic.hygienic true in
theorem KD {it:V}{v:Value}{ds:List V}{Q:Value->Shared->Prop} (e:qp it=.ok ds) (r:Rep (seen X s.heap) it v)
  (hQ:∀ o,bh (s.heap.push o) X s.heap.objs.size ds->o.isFreed=false->Q (.ref s.heap.objs.size) { s with heap:=s.heap.push o }):wpAny (model prog w) A (pyIter v) Q E s:=by
 cases it with
 | list xs=>
  rw[Iw] at e
  injection e with e;subst e
  refine dR r fun a dd sl vs n hX ha hl rl=>?_
  refine wpAny_pyIter_list (bH ha) (hQ _ ?_ rfl)
  have k:=Kept.push s.heap s.heap { cls:=.type "list_iterator",data:=.fields #[.ref a,.int (0:Nat) 0] }
  exact .list ⟨_,Heap.get?_push_size _ rfl,rfl,rfl⟩ (bH (Heap.get?_push_of_some _ ha)) hX (k.kb rl)
 | str x=>
  rw[w8] at e
  unfold R.guard at e
  split at e
  ·rename_i ha
   injection e with e;subst e
   refine cH r fun y t gS O=>?_;subst gS
   refine wpAny_pyIter_ascii ?_ (hQ _ ?_ rfl)
   ·rw[<- Array.all_toList];exact ha
   ·have:bh (s.heap.push { cls:=.type "str_ascii_iterator",data:=.fields #[.str y t,.int (0:Nat) 0] }) X s.heap.objs.size _:=.str (i:=0) ⟨_,Heap.get?_push_size _ rfl,rfl,rfl⟩
    simpa using this
  ·contradiction
 | bytes x=>
  rw[Iy] at e
  injection e with e;subst e
  refine aU r fun y t gS O=>?_;subst gS
  refine KBw.pyIter_bytes (hQ _ ?_ rfl)
  have:bh (s.heap.push { cls:=.type "bytes_iterator",data:=.fields #[.bytes y t,.int (0:Nat) 0] }) X s.heap.objs.size _:=.bytes (i:=0) ⟨_,Heap.get?_push_size _ rfl,rfl,rfl⟩
  simpa [Function.comp_def] using this
 | _=>contradiction
theorem rZ {a b:Int}{st:Nat} (gh:st=1∨st=2):Builtin.Range.rangeSize a b (st:Int)=(((b - a).toNat+st - 1) / st:Nat):=by
 unfold Builtin.Range.rangeSize
 rcases gh with rfl | rfl
 ·simp only[show ((1:Nat):Int) > 0 by decide,if_true]
  split<;>lia
 ·simp only[show ((2:Nat):Int) > 0 by decide,if_true]
  split<;>lia
theorem fJ {i:Int} (h:i.natAbs<=4000000):Builtin.Range.rangeFitsLong i=true:=by
 unfold Builtin.Range.rangeFitsLong
 rw[Bool.and_eq_true,decide_eq_true_eq,decide_eq_true_eq]
 have h1:i<=4000000:=Int.le_trans Int.le_natAbs (Int.ofNat_le.mpr h)
 have h2:-i<=4000000:=Int.le_trans Int.le_natAbs (Int.ofNat_le.mpr (by rw[Int.natAbs_neg];exact h))
 exact⟨Int.le_trans (by decide) (Int.neg_le_of_neg_le h2),Int.lt_of_le_of_lt h1 (by decide)⟩
theorem qd {a b:Int}{m n:Nat} (h:a.natAbs<=m) (k:b.natAbs<=n):(a+b).natAbs<=m+n:=Nat.le_trans (Int.natAbs_add_le a b) (Nat.add_le_add h k)
theorem Dm {a b:Int}{m n:Nat} (h:a.natAbs<=m) (k:b.natAbs<=n):(b - a).natAbs<=n+m:=by
 rw[Int.sub_eq_add_neg]
 exact qd k (by rw[Int.natAbs_neg];exact h)
theorem toNat_abs (i:Int):i.toNat<=i.natAbs:=by
 cases i with
 | ofNat n=>exact Nat.le_refl _
 | negSucc n=>exact Nat.zero_le _
theorem yI {a b:Int}{st:Nat} (gh:st=1∨st=2) (ha:a.natAbs<=1000000) (hb:b.natAbs<=1000000):Builtin.Range.small a b st=true:=by
 have h2:st<=2:=by rcases gh with rfl | rfl<;>decide
 have hs:((st:Int)).natAbs<=2:=h2
 have hz:(((b - a).toNat+st - 1) / st)<=4000000:=Nat.le_trans (Nat.div_le_self _ _) (Nat.le_trans (Nat.sub_le _ _) (Nat.le_trans (Nat.add_le_add (Nat.le_trans (toNat_abs _) (Dm ha hb)) h2) (by decide)))
 unfold Builtin.Range.small
 rw[rZ gh,fJ (Nat.le_trans ha (by decide)),fJ (Nat.le_trans hb (by decide)),fJ (Nat.le_trans hs (by decide)),fJ (i:=((_:Nat):Int)) hz,
  fJ (Nat.le_trans (qd hb (Dm (m:=1) (by decide) hs)) (by decide)),fJ (Nat.le_trans (qd hb (qd (n:=1) hs (by decide))) (by decide)),ite_self,Bool.or_true]
 rfl
theorem lI {r:Addr}{a b:Int}{st:Nat}{t u z:Tok}{Q:Value->Shared->Prop} (hr:IsRange s.heap r a b st t u z) (gh:st=1∨st=2) (ha:a.natAbs<=1000000) (hb:b.natAbs<=1000000)
  (hQ:∀ o,bh (s.heap.push o) X s.heap.objs.size (iq a b st)->o.isFreed=false->Q (.ref s.heap.objs.size) { s with heap:=s.heap.push o }):wpAny (model prog w) A (pyIter (.ref r)) Q E s:=by
 refine wpAny_pyIter_range hr (yI gh ha hb) (hQ _ ?_ rfl)
 rw[rZ gh]
 exact .range (Heap.get?_push_size _ rfl)
end
structure Wd (K:Frag) (base:Heap):Prop where
 jC:K.In base
 top:∃ (p:Program) (loose:List PySem.Str) (mg mb:PySem.Str->Option Value),TopRead p loose mg mb base
section
variable (base:Heap) (n:Nat)
structure At (A:Around) (X:Addr->Prop) (own:Owner) (sc:Scope) (j:List (PySem.Str × Nat)) (ec:Env) (J:Ρ) (h:Heap):Prop where
 rel:Oy h X own ec j J
 cx:Cx base A h n
 ge:Ge ec
 scope:ec.scope=sc
 low:nu X h
 new:∀ a,X a->base.get? a=none
end
theorem At.kept {base:Heap}{n:Nat}{A:Around}{X:Addr->Prop}{own:Owner}{sc:Scope}{j:List (PySem.Str × Nat)}{ec:Env}{J:Ρ}{h h':Heap} (x:At base n A X own sc j ec J h) (k:Kept base h h'):At base n A X own sc j ec J h':=
 ⟨x.rel.kept k,x.cx.kept k,x.ge,x.scope,x.low.kept k,x.new⟩
section
variable (prog:Program) (w:World) (base:Heap) (cl:dC->Value) (D:Fn->List V->R V) (n:Nat)
def wo (fa:Fn->Addr):Prop:=∀ (A:Around) (X:Addr->Prop) (s:Shared) (f:Fn) (ds:List V) (vs:List Value),Cx base A s.heap n->nu X s.heap->(∀ a,X a->base.get? a=none)->az (seen X s.heap) ds vs->
 kM prog w base cl A X false (call (.ref (fa f)) vs []) s (D f ds)
def aM (fr:Bool) (sc:Scope) (j:List (PySem.Str × Nat)) (e:Expr) (p:PE):Prop:=
 ∀ (A:Around) (X:Addr->Prop) (ec:Env) (J:Ρ) (s:Shared),At base n A X none sc j ec J s.heap->kM prog w base cl A X fr (eval e ec) s (ao D p J)
def gE (sc:Scope) (j:List (PySem.Str × Nat)) (e:Expr) (p:PE):Prop:=
 ∀ (A:Around) (X:Addr->Prop) (ec:Env) (J:Ρ) (s:Shared),At base n A X none sc j ec J s.heap->OL prog w base cl A (isTrue e ec (eval e ec)) s ((ao D p J).bind V.truth)
def og (op:BoolOp) (sc:Scope) (j:List (PySem.Str × Nat)) (es:List Expr) (p:PE):Prop:=
 ∀ (A:Around) (X:Addr->Prop) (ec:Env) (J:Ρ) (s:Shared),At base n A X none sc j ec J s.heap->OL prog w base cl A (allTrue op es ec) s ((ao D p J).bind V.truth)
def kf (sc:Scope) (j:List (PySem.Str × Nat)) (es:List Expr) (ps:fZ):Prop:=
 ∀ (A:Around) (X:Addr->Prop) (ec:Env) (J:Ρ) (s:Shared) (pos:Pos),At base n A X none sc j ec J s.heap->W5 prog w base cl A X (spliced (backTo pos (starEach es ec))) s (cT D ps J)
end
section
variable {prog:Program}{w:World}{base:Heap}{cl:dC->Value}{A:Around}{X:Addr->Prop}{s:Shared}{α:Type}
theorem jD {g:Addr->Obj->Prop}{d:V}{v:Value} (r:Rep g d v):RP prog w base cl A (truthy v) s d.truth:=by
 cases d with
 | none=>refine mK r ?_;exact .val fun Q E h=>PyProof.Rows.truthy_none (h _)
 | bool b=>refine iG r ?_;exact .val fun Q E h=>wpAny_truthy_bool (h _)
 | int i=>
  refine aQ r fun t=>?_
  refine .val fun Q E h=>P.truthy_int ?_
  have e:(i != 0)=decide (i≠0):=by by_cases q:i=0<;>simp[q]
  rw[e];exact h _
 | str x=>
  refine cH r fun y t e hl=>?_
  refine .val fun Q E h=>P.truthy_str (by rw[str_len e];lia) ?_
  have e:((y.length:Int) != 0)=!x.isEmpty:=by rw[str_len e];cases x<;>simp;lia
  rw[e];exact h _
 | _=>exact .stuck
variable {D:Fn->List V->R V}{n:Nat}{sc:Scope}{j:List (PySem.Str × Nat)}{K:Frag}
theorem fV {A:Around}{n:Nat} (h:A.units+10*n<=9000):A.units+100<cLine:=Nat.lt_of_lt_of_le (show A.units+100<9101 by lia) (by decide)
theorem cst {fr:Bool}{e:Expr}{d:V} (h:∀ (A:Around) (X:Addr->Prop) (ec:Env) (s:Shared) (Q E:Value->Shared->Prop),(∀ v tk,Rep (seen X s.heap) d v->Q v { s with toks:=tk })->wpAny (model prog w) A (eval e ec) Q E s) (hd:∀ X h h' v,rL X h h' d v) :
  aM prog w base cl D n fr sc j e (.const d):=fun A X ec J s O=>(Ev.flat (fun O O O=>hd _ _ _ _) fun Q E hQ=>h A X ec s Q E hQ).g
theorem aM.int {fr:Bool}{i:Int}{k:Nat}{pos:Pos}:aM prog w base cl D n fr sc j (.Constant (.int i) k pos) (.const (.int i)):=
 cst (fun O O O O O O hQ=>wpAny_Constant_int (hQ _ _ (bD _ _))) fun O O O O=>trivial
theorem aM.R6 {fr:Bool}{i aaQ:Int}{k:Nat}{pos p:Pos} (e:aaQ=-i:=by rfl):aM prog w base cl D n fr sc j (.UnaryOp .USub (.Constant (.int i) k pos) p) (.const (.int aaQ)):=
 cst (fun O O O O O O hQ=>UnaryOp_ (wpAny_Constant_int (neg_int (hQ _ _ (e ▸ bD _ _))))) fun O O O O=>trivial
theorem aM.str {fr:Bool}{x:PySem.Str}{l:List Nat}{k:Nat}{pos:Pos} (e:x.cps.toList=l:=by rfl) (hl:l.length<=16777216:=by decide):aM prog w base cl D n fr sc j (.Constant (.str x) k pos) (.const (.str l)):=
 cst (fun O O O O O O hQ=>Constant_str (hQ _ _ (c9 _ e hl))) fun O O O O=>trivial
theorem aM.bool {fr:Bool}{b:Bool}{k:Nat}{pos:Pos}:aM prog w base cl D n fr sc j (.Constant (.bool b) k pos) (.const (.bool b)):=
 cst (fun O O O O O O hQ=>wpAny_Constant_bool (hQ _ _ (ew _))) fun O O O O=>trivial
theorem aM.none {fr:Bool}{k:Nat}{pos:Pos}:aM prog w base cl D n fr sc j (.Constant .none k pos) (.const .none):=
 cst (fun O O O O O O hQ=>wpAny_Constant_none (hQ _ _ rQ)) fun O O O O=>trivial
theorem aM.bin {fr f1 f2:Bool}{l r:Expr}{op:QQ}{pos:Pos}{a b:PE}{o:Operator} (ho:o=op.op) (hl:aM prog w base cl D n f1 sc j l a) (hr:aM prog w base cl D n f2 sc j r b):aM prog w base cl D n fr sc j (.BinOp l o r pos) (.bin op a b):=by
 subst ho
 exact fun A X ec J s x=>kM.BinOp (hl A X ec J s x) (fun h' tk k=>hr A X ec J _ (x.kept k)) fun d e v u h' tk r1 r2 k=>by
  have:=R4 (prog:=prog) (w:=w) (base:=base) (cl:=cl) (A:=A) (s:={ s with heap:=h',toks:=tk }) (x.low.kept k) op r1 r2
  cases fr
  ·exact this.weak.g
  ·exact this.g
theorem aM.cmp {fr f1 f2:Bool}{l r:Expr}{op:PY}{pos:Pos}{a b:PE}{o:CmpOp} (ho:o=op.op) (hm:behindInMarks o r=false) (hl:aM prog w base cl D n f1 sc j l a) (hr:aM prog w base cl D n f2 sc j r b):aM prog w base cl D n fr sc j (.Compare l [o] [r] pos) (.cmp op a b):=by
 subst ho
 exact fun A X ec J s x=>kM.Compare (hl A X ec J s x) hm (fun h' tk k=>hr A X ec J _ (x.kept k)) fun d e v u h' tk r1 r2 k=>by
  have x':=x.kept k
  have hu:=x'.cx.units
  have:=KC (prog:=prog) (w:=w) (base:=base) (cl:=cl) (A:=A) (s:={ s with heap:=h',toks:=tk }) x'.cx.held (fV hu) op r1 r2
  cases fr
  ·exact this.weak.g
  ·exact this.g
theorem aM.not {fr f1:Bool}{e:Expr}{pos:Pos}{a:PE} (h:aM prog w base cl D n f1 sc j e a):aM prog w base cl D n fr sc j (.UnaryOp .Not e pos) (.not a):=fun A X ec J s x Q E p au=>by
 refine Ho (h A X ec J s x _ _ ⟨fun d v h' tk e k rp O=>?_,p.ex.of⟩ (R.aN au))
 have bS:=p.step (tk:=tk) e k
 have aq:=R.aZ au e
 exact (ag (PySem.not_value (jD rp _ _ ⟨fun b aE bF bM k₂=>bS.ok _ _ aE bF (by rw[bM];rfl) k₂ (ew _) fun O=>trivial,bS.ex.of⟩ (R.aN aq))))
theorem aM.and {f1 f2:Bool}{e f:Expr}{pos:Pos}{a b:PE} (h:aM prog w base cl D n f1 sc j e a) (h':aM prog w base cl D n f2 sc j f b):aM prog w base cl D n false sc j (.BoolOp .And [e,f] pos) (.and a b):=fun A X ec J s x Q E p au=>by
  refine RT (h A X ec J s x _ _ ⟨fun d v aj tk e k rp O=>?_,p.ex.of⟩ (R.aN au))
  have bS:=p.step (tk:=tk) e k
  have aq:=R.aZ au e
  refine (jD rp).g _ _ ⟨fun t aE bF bM k₂=>?_,bS.ex.of⟩ (R.aN aq)
  have dj:=bS.step (tk:=bF) bM k₂
  have cI:=R.aZ aq bM
  cases t with
  | true=>exact (h' A X ec J _ (x.kept (k.trans k₂))).weak _ _ dj cI
  | false=>exact dj.ok d v aE bF rfl (.refl _ _) (k₂.rep rp) fun q=>by contradiction
theorem aM.or {f1 f2:Bool}{e f:Expr}{pos:Pos}{a b:PE} (h:aM prog w base cl D n f1 sc j e a) (h':aM prog w base cl D n f2 sc j f b):aM prog w base cl D n false sc j (.BoolOp .Or [e,f] pos) (.or a b):=fun A X ec J s x Q E p au=>by
  refine Ur (h A X ec J s x _ _ ⟨fun d v aj tk e k rp O=>?_,p.ex.of⟩ (R.aN au))
  have bS:=p.step (tk:=tk) e k
  have aq:=R.aZ au e
  refine (jD rp).g _ _ ⟨fun t aE bF bM k₂=>?_,bS.ex.of⟩ (R.aN aq)
  have dj:=bS.step (tk:=bF) bM k₂
  have cI:=R.aZ aq bM
  cases t with
  | false=>exact (h' A X ec J _ (x.kept (k.trans k₂))).weak _ _ dj cI
  | true=>exact dj.ok d v aE bF rfl (.refl _ _) (k₂.rep rp) fun q=>by contradiction
theorem gE.value {f1:Bool}{e:Expr}{p:PE} (h:aM prog w base cl D n f1 sc j e p) (he:∀ env whole,isTrue e env whole=(do let v <- whole;standAt e.pos;holding [v] (truthy v)):=by intros;rfl):gE prog w base cl D n sc j e p:=fun A X ec J s x Q E p au=>
 rN (h A X ec J s x _ _ ⟨fun d v aj tk e k rp O=>(jD rp).g _ _ (p.step e k) (R.aZ au e),p.ex.of⟩ (R.aN au)) (he _ _)
set_option tactic.hygienic true in
theorem gE.not {e:Expr}{pos:Pos}{a:PE} (h:gE prog w base cl D n sc j e a):gE prog w base cl D n sc j (.UnaryOp .Not e pos) (.not a):=fun A X ec J s x Q E p au=>by
 have e1:(ao D (.not a) J).bind V.truth=((ao D a J).bind V.truth).bind fun b=>.ok (!b):=by
  rw[QT];cases ao D a J<;>try rfl
  rename_i v;show (R.bind (V.truth v) _).bind V.truth=R.bind (V.truth v) _
  cases V.truth v<;>rfl
 rw[e1] at p au
 exact wd (h A X ec J s x _ _ ⟨fun b aj tk e k=>(p.step (tk:=tk) e k).ok _ aj tk rfl (.refl _ _),p.ex.of⟩ (R.aN au))
set_option tactic.hygienic true in
theorem gE.cmp {f1 f2:Bool}{l r:Expr}{op:PY}{pos:Pos}{a b:PE}{o:CmpOp} (ho:o=op.op) (hm:behindInMarks o r=false) (hl:aM prog w base cl D n f1 sc j l a) (hr:aM prog w base cl D n f2 sc j r b):gE prog w base cl D n sc j (.Compare l [o] [r] pos) (.cmp op a b):=by
 subst ho
 intro A X ec J s x Q E p au
 have e1:(ao D (.cmp op a b) J).bind V.truth=(ao D a J).bind fun d=>(ao D b J).bind fun e=>(pG op d e).bind V.truth:=by
  rw[QS]
  cases ao D a J<;>try rfl
  rename_i v;show (R.bind (ao D b J) _).bind V.truth=R.bind (ao D b J) _
  cases ao D b J<;>rfl
 rw[e1] at p au
 refine mG (hl A X ec J s x _ _ ⟨fun d v aj tk e k rp O=>?_,p.ex.of⟩ (R.aN au)) hm
 have bS:=p.step (tk:=tk) e k
 have aq:=R.aZ au e
 refine hr A X ec J _ (x.kept k) _ _ ⟨fun KG u aE bF bM k₂ gW O=>?_,bS.ex.of⟩ (R.aN aq)
 have dj:=bS.step (tk:=bF) bM k₂
 have cI:=R.aZ aq bM
 have Hv:=x.kept (k.trans k₂)
 have hu:=Hv.cx.units
 refine (KC (base:=base) (cl:=cl) (s:={ s with heap:=aE,toks:=bF }) Hv.cx.held (fV hu) op (k₂.rep rp) gW).g _ _ ⟨fun OQ c bG jE r5 gX KH O=>?_,dj.ex.of⟩ (R.aN cI)
 exact (jD KH).g _ _ (dj.step r5 gX) (R.aZ cI r5)
theorem gE.bool {op:BoolOp}{es:List Expr}{pos:Pos}{p:PE} (h:og prog w base cl D n op sc j es p):gE prog w base cl D n sc j (.BoolOp op es pos) p:=fun A X ec J s x Q E p au=>pK (h A X ec J s x Q E p au)
theorem og.one {op:BoolOp}{e:Expr}{p:PE} (h:gE prog w base cl D n sc j e p):og prog w base cl D n op sc j [e] p:=fun A X ec J s x Q E p au=>by
 cases op
 ·refine kL (h A X ec J s x _ _ ⟨fun b aj tk e k=>?_,p.ex⟩ au)
  cases b
  ·exact p.ok _ _ _ e k
  ·exact (ag (wpAny_allTrue_And_nil (p.ok _ _ _ e k)))
 ·refine mH (h A X ec J s x _ _ ⟨fun b aj tk e k=>?_,p.ex⟩ au)
  cases b
  ·exact (ag (wpAny_allTrue_Or_nil (p.ok _ _ _ e k)))
  ·exact p.ok _ _ _ e k
theorem Hw {a b:PE}{J:Ρ}{k:Bool} (e:(ao D a J).bind V.truth=.ok k):(ao D (.and a b) J).bind V.truth=if k then (ao D b J).bind V.truth else .ok false:=by
 rw[QV]
 cases q:ao D a J with
 | ok v=>
  rw[q] at e
  show (R.bind (V.truth v) _).bind V.truth=_
  have e':V.truth v=.ok k:=e
  rw[e']
  cases k
  ·exact e'
  ·rfl
 | exc x=>rw[q] at e;contradiction
 | stuck=>rw[q] at e;contradiction
theorem KJ {a b:PE}{J:Ρ}{k:Bool} (e:(ao D a J).bind V.truth=.ok k):(ao D (.or a b) J).bind V.truth=if k then .ok true else (ao D b J).bind V.truth:=by
 rw[QW]
 cases q:ao D a J with
 | ok v=>
  rw[q] at e
  show (R.bind (V.truth v) _).bind V.truth=_
  have e':V.truth v=.ok k:=e
  rw[e']
  cases k
  ·rfl
  ·exact e'
 | exc x=>rw[q] at e;contradiction
 | stuck=>rw[q] at e;contradiction
theorem OS {r:R V}{g:V->Bool->R V}{h:V->R Bool}{z:dC} (e:r.bind V.truth=.exc z):(r.bind fun x=>x.truth.bind (g x)).bind h=.exc z:=by
 cases r with
 | ok v=>show ((V.truth v).bind (g v)).bind h=_;rw[show V.truth v=.exc z from e];rfl
 | exc x=>injection e with e;rw[e];rfl
 | stuck=>contradiction
theorem OU {r:R V}{g:V->Bool->R V}{h:V->R Bool} (e:r.bind V.truth=.stuck):(r.bind fun x=>x.truth.bind (g x)).bind h=.stuck:=by
 cases r with
 | ok v=>show ((V.truth v).bind (g v)).bind h=_;rw[show V.truth v=.stuck from e];rfl
 | exc x=>contradiction
 | stuck=>rfl
theorem o8 {a b:PE}{J:Ρ}{c:PE} (hc:c=.and a b∨c=.or a b):(∀ z,(ao D a J).bind V.truth=.exc z->(ao D c J).bind V.truth=.exc z)/\((ao D a J).bind V.truth=.stuck->(ao D c J).bind V.truth=.stuck):=by
 rcases hc with rfl | rfl<;>exact⟨fun z e=>OS e,fun e=>OU e⟩
theorem og.and {e f:Expr}{r:List Expr}{a b:PE} (h:gE prog w base cl D n sc j e a) (h':og prog w base cl D n .And sc j (f::r) b):og prog w base cl D n .And sc j (e::f::r) (.and a b):=fun A X ec J s x Q E p au=>by
 refine aC (o8 (D:=D) (J:=J) (a:=a) (b:=b) (.inl rfl)) fun t1 t2=>?_
 refine kL (h A X ec J s x _ _ ⟨fun k aj tk e₁ kp=>?_,fun z e₁ aj tk q=>p.ex z e₁ aj tk (t1 z q)⟩ fun q=>au (t2 q))
 rw[Hw e₁] at p au
 cases k
 ·exact p.ok _ _ _ rfl kp
 ·exact h' A X ec J _ (x.kept kp) _ _ (p.move kp) au
theorem og.or {e f:Expr}{r:List Expr}{a b:PE} (h:gE prog w base cl D n sc j e a) (h':og prog w base cl D n .Or sc j (f::r) b):og prog w base cl D n .Or sc j (e::f::r) (.or a b):=fun A X ec J s x Q E p au=>by
 refine aC (o8 (D:=D) (J:=J) (a:=a) (b:=b) (.inr rfl)) fun t1 t2=>?_
 refine mH (h A X ec J s x _ _ ⟨fun k aj tk e₁ kp=>?_,fun z e₁ aj tk q=>p.ex z e₁ aj tk (t1 z q)⟩ fun q=>au (t2 q))
 rw[KJ e₁] at p au
 cases k
 ·exact h' A X ec J _ (x.kept kp) _ _ (p.move kp) au
 ·exact p.ok _ _ _ rfl kp
noncomputable def notStar:Expr->Bool
 | .Starred _ _=>false
 | _=>true
theorem aS {e:Expr}{r:List Expr}{env:Env} (h:notStar e=true):starEach (e::r) env=(false,eval e env)::starEach r env:=by cases e<;>first | rfl | contradiction
theorem kf.nil:kf prog w base cl D n sc j [] .nil:=fun A X ec J s pos x Q E p au=>by
 exact (ag (spliced_nil (p.ok [] [] _ _ rfl (.refl _ _) .nil)))
theorem kf.cons {f1:Bool}{e:Expr}{r:List Expr}{a:PE}{as:fZ} (h:aM prog w base cl D n f1 sc j e a) (h':kf prog w base cl D n sc j r as) (hs:notStar e=true:=by rfl):kf prog w base cl D n sc j (e::r) (.cons a as):=fun A X ec J s pos x Q E p au=>by
 rw[aS hs]
 refine cS (h A X ec J s x _ _ ⟨fun d v aj tk e₁ k rp O=>?_,p.ex.of⟩ (R.aN au))
 have bS:=p.step (tk:=tk) e₁ k
 have aq:=R.aZ au e₁
 refine h' A X ec J _ pos (x.kept k) _ _ ⟨fun ds vs aE bF bM k₂ gW=>?_,bS.ex.of⟩ (R.aN aq)
 exact (bS.step (tk:=bF) bM k₂).ok _ _ aE bF rfl (.refl _ _) (.cons (k₂.rep rp) gW)
theorem bu:(16777216:Nat)<=sizeLine:=by decide +kernel
noncomputable def fZ.len:fZ->Nat
 | .nil=>0
 | .cons _ r=>r.len+1
theorem gY:∀ {ps:fZ}{J:Ρ}{ds:List V},cT D ps J=.ok ds->ds.length=ps.len
 | .nil,_,_,e=>by skip;injection e with e;subst e;rfl
 | .cons a r,J,ds,e=>by
  rw[p5] at e
  cases q:ao D a J with
  | ok v=>
   rw[q] at e
   cases OV:cT D r J with
   | ok vs=>rw[R.bP rfl,OV] at e;injection e with e;subst e;exact congrArg (·+1) (gY OV)
   | exc z=>rw[R.bP rfl,OV] at e;contradiction
   | stuck=>rw[R.bP rfl,OV] at e;contradiction
  | exc z=>rw[q] at e;contradiction
  | stuck=>rw[q] at e;contradiction
theorem aM.list {fr:Bool}{es:List Expr}{ps:fZ}{pos:Pos} (h:kf prog w base cl D n sc j es ps) (hl:ps.len<=1000:=by decide):aM prog w base cl D n fr sc j (.List es pos) (.list ps):=fun A X ec J s x Q E p au=>by
 rw[Mu] at p au
 refine RV (h A X ec J s pos x _ _ ⟨fun ds vs aj tk e₁ k rp=>?_,p.ex.of⟩ (R.aN au))
 have bS:=p.step (tk:=tk) e₁ k
 have Qs:=gY e₁
 have UI:=rp.length
 refine (mL (ds:=ds) (vs:=vs.toArray) (fr:=fr) (s:={ s with heap:=aj,toks:=tk }) (by lia) (x.low.kept k) (by simpa using rp) (fun Q E hQ=>wpAny_newList (hQ _) (by have:=bu;lia))).g _ _ bS (by intro q;contradiction)
theorem aM.tuple {fr:Bool}{es:List Expr}{ps:fZ}{pos:Pos}{k:Nat} (h:kf prog w base cl D n sc j es ps) (hl:ps.len<=1000:=by decide):aM prog w base cl D n fr sc j (.Tuple es k pos) (.tuple ps):=fun A X ec J s x Q E p au=>by
 refine OD (h A X ec J s pos x _ _ ⟨fun ds vs aj tk e₁ k rp=>?_,p.ex.of⟩ (R.aN au))
 have bS:=p.step (tk:=tk) e₁ k
 have Qs:=gY e₁
 have UI:=rp.length
 refine (ag (wpAny_newObj_type (T:="tuple") (data:=.seq vs.toArray) (bS.ok (.tuple ds) _ _ _ rfl (Kept.push _ _ _) ?_ fun O=>trivial) (by show vs.toArray.size<=sizeLine;have:=bu;simp;lia)))
 refine⟨_,_,_,0,rfl,⟨Heap.get?_push_size _ rfl,(x.low.kept k).none (bV _)⟩,rfl,rfl,by lia,?_⟩
 have k₂:=Kept.push base aj { cls:=.type "tuple",data:=.seq vs.toArray }
 simpa using k₂.kb rp
end
section
variable {prog:Program}{w:World}{base:Heap}{cl:dC->Value}{A:Around}{X:Addr->Prop}{s:Shared}{D:Fn->List V->R V}{n:Nat}{sc:Scope}{j:List (PySem.Str × Nat)}{K:Frag}
theorem yJ {h:Heap}{ec:Env}{x:PySem.Str}{pos:Pos}{v:Value}{Q E:Value->Shared->Prop} (g:Ge ec) (y:Var s.heap ec x v) (hQ:Q v s) (hd:(x == ("__debug__":PySem.Str))=false) (hc:(x == ("__classdict__":PySem.Str))=false) :
  wpAny (model prog w) A (eval (.Name x pos) ec) Q E s:=by
 refine wpAny_Name ?_ hd
 rcases y with ⟨k,m,hn,e⟩ | ⟨k,c,e,dv⟩
 ·exact wpAny_loadName_local g.kind k hn e hQ
 ·rcases k with k | k
  ·exact wpAny_loadName_cell g.kind k e dv hQ
  ·exact wpAny_loadName_free g.kind k e dv hQ hc
theorem aM.loc {x:PySem.Str}{i:Nat}{pos:Pos} (e:j.lookup x=some i) (hd:(x == ("__debug__":PySem.Str))=false) (hc:(x == ("__classdict__":PySem.Str))=false) :
  aM prog w base cl D n false sc j (.Name x pos) (.loc i):=fun A X ec J s a Q E p au=>by
 rw[QR] at p au
 cases q:J[i]? with
 | none=>rw[q] at au;exact absurd rfl au
 | some o=>
  cases o with
  | none=>rw[q] at au;exact absurd rfl au
  | some d=>
   rw[q] at p
   refine Exists.elim (a.rel x i d e q) fun v zz=>aC zz fun hv hr=>?_
   exact (ag (yJ (h:=s.heap) a.ge hv (p.ok d v s.heap s.toks rfl (.refl _ _) hr fun z=>by contradiction) hd hc))
theorem j6 {ec:Env}{x:PySem.Str}{pos:Pos}{v:Value}{Q E:Value->Shared->Prop} (W:Wd K base) (st:base.StaysIn s.heap) (g:Ge ec) (hs:ec.scope=sc) (hk:sc.names.lookup x=some .globalImplicit) (e:nsIn K mainGlobals x=some (some v)) (hQ:Q v s)
  (hd:(x == ("__debug__":PySem.Str))=false):wpAny (model prog w) A (eval (.Name x pos) ec) Q E s:=by
 refine kR W.top fun p loose mg mb T=>?_
 refine Name_function_global g.kind (by unfold Env.kindOf;rw[hs];exact hk) (loadGlobal_global (mg:=mg) (by rw[g.globals];exact T.g.keeps st) (mg_of W.jC T.g e) hQ) hd
theorem cJ {ec:Env}{x:PySem.Str}{pos:Pos}{v:Value}{Q E:Value->Shared->Prop} (W:Wd K base) (st:base.StaysIn s.heap) (g:Ge ec) (hs:ec.scope=sc) (hk:sc.names.lookup x=some .globalImplicit) (e:nsIn K mainGlobals x=some none) (hv:bootBuiltins x=some v) (hQ:Q v s)
  (hn:x≠"__name__") (hd:(x == ("__debug__":PySem.Str))=false):wpAny (model prog w) A (eval (.Name x pos) ec) Q E s:=by
 refine kR W.top fun p loose mg mb T=>?_
 refine Name_function_global g.kind (by unfold Env.kindOf;rw[hs];exact hk) (loadGlobal_builtin (mg:=mg) (mb:=mb) (by rw[g.globals];exact T.g.keeps st) (mg_none_of W.jC T.g e) (by rw[g.builtins];exact T.b.keeps st) ((T.builtins x hn).trans hv) hQ) hd
theorem aM.glob {x:PySem.Str}{pos:Pos}{gv:Value}{d:V} (W:Wd K base) (hk:sc.names.lookup x=some .globalImplicit) (e:nsIn K mainGlobals x=some (some gv)) (hr:∀ (g:Addr->Obj->Prop),(∀ a o,K.lookup a=some o->g a o)->Rep g d gv)
  (hd:(x == ("__debug__":PySem.Str))=false):aM prog w base cl D n false sc j (.Name x pos) (.glob d):=fun A X ec J s a Q E p au=>by
 refine (ag (j6 W a.cx.stays a.ge a.scope hk e (p.ok d gv s.heap s.toks rfl (.refl _ _) (hr _ fun b o q=>⟨a.cx.stays b o (W.jC b o q),fun hx=>?_⟩) fun z=>by contradiction) hd))
 have e1:=a.new b hx
 rw[W.jC b o q] at e1;contradiction
theorem BD (l:Addr) (items:Array Value) (n:Nat) (dd:Option Addr) (sl:Array (Option Value)) (i:Int) (u:Tok) (k:Nat) (y:Value) (Wc:-2 ^ 63<=i) (hhi:i<2 ^ 63) (hk:seqIndex? i items.size=some k) (hy:items[k]?=some y) :
  Meets (Builtin.«tuple.__getitem__» ⟨[.ref l,.int i u],[]⟩)
   (fun O R s=>s.heap.get? l=some { cls:=.type "tuple",dict:=dd,data:=.seq items n,slots:=sl }/\R (.ok (.ret y)) s):=
 .of_wp fun prog w A R s h=>by
  obtain⟨hp,g,d,tk,os⟩:=s;obtain⟨hl,h⟩:=h
  have f1:=AutoSeq1.idx_int
  have hf:¬ (decide (i < -2 ^ 63)||decide (i ≥ 2 ^ 63))=true:=by simp;omega
  wp_walk using AutoSeq1.wpAny_loadPart' hl
  simp only[hk,hy,Option.bind_some]
  refine wpAny_ite_false (by simp;omega) ?_
  wp_walk
  exact⟨_,rfl,h⟩
theorem jF {i:Int}{n:Nat} (h0:0<=i) (h1:i.toNat<n):seqIndex? i n=some i.toNat:=by
 unfold seqIndex?
 rw[if_neg (show ¬ i<0 by lia)]
 rw[if_pos (by simp;lia)]
set_option tactic.hygienic true in
theorem OW {value slice:Expr}{x y:V}{o i:Value} (rx:Rep (seen X s.heap) x o) (ry:Rep (seen X s.heap) y i) (hs:∀ o i,∃ ops,subscripted slice false o i=operate ops (getItem o i)) (ht:∀ r,letTemporaryGo value o r=pure ()) :
  Ev prog w base cl A X false (subscriptTail value slice o i) s (il x y):=by
 refine Exists.elim (hs o i) fun ops yK=>?_
 cases x<;>first | exact .stuck | skip
 ·rename_i l
  cases y<;>first | exact .stuck | skip
  rename_i k
  rw[Mp]
  refine bW (fy rx) fun z t zz=>b6 zz fun aw e hl=>?_;clear zz;subst aw
  refine Exists.elim (gm ry) fun u aw=>?_;subst aw
  split
  ·rename_i h0
   cases hc:l[k.toNat]? with
   | none=>exact .stuck
   | some c=>
    have hV:=(List.getElem?_eq_some_iff.mp hc).1
    have ZM:=str_len e
    refine Ev.flat (fun O O O=>trivial) fun Q E hQ=>subscriptTail_ops (typeIs_str s z t) F.slot_str_getitem.lookup (P.getItem_str (c:=c) ?_ ?_ (hQ _ _ (c9 _ rfl (by simp)))) yK ht
    ·simp;lia
    ·rw[jF h0 (by lia)]
     show z.cps[k.toNat]?=some c
     rw[<- Array.getElem?_toList,e];exact hc
  ·exact .stuck
 ·rename_i l
  cases y<;>first | exact .stuck | skip
  rename_i k
  rw[Mq]
  refine bW (ei rx) fun z t zz=>b6 zz fun aw e hl=>?_;clear zz;subst aw
  refine Exists.elim (gm ry) fun u aw=>?_;subst aw
  split
  ·rename_i h0
   cases hc:l[k.toNat]? with
   | none=>exact .stuck
   | some c=>
    have hV:=(List.getElem?_eq_some_iff.mp hc).1
    have ZM:=bf e
    subst e
    rw[List.getElem?_map] at hc
    refine Exists.elim (Option.map_eq_some_iff.mp hc) fun b zz=>aC zz fun hb aw=>?_;clear zz;subst aw
    refine Ev.flat (fun O O O=>trivial) fun Q E hQ=>subscriptTail_ops (W.typeIs_bytes s z t) FB.slot_bytes_getitem.lookup (getItem_gives (W.typeIs_bytes s z t) (by decide) FB.slot_bytes_getitem FB.entry_bytes_getitem (FB.args_bytes_getitem_2 _ _) (W.gives_bytes_getitem z k t u b ?_ ?_) (hQ _ _ (bD _ _))) yK ht
    ·unfold Builtin.Bytes.fitsIndex;simp;lia
    ·rw[jF h0 (by lia)]
     show z[k.toNat]?=some b
     rw[<- Array.getElem?_toList];exact hb
  ·exact .stuck
 ·rename_i xs
  cases y<;>first | exact .stuck | skip
  rename_i k
  rw[Mr]
  refine Tr (rS rx) fun a dd sl vs nn zz=>p4 zz fun aw hX ha hl rl=>?_;clear zz;subst aw
  refine Exists.elim (gm ry) fun u aw=>?_;subst aw
  split
  ·rename_i h0
   cases hc:xs[k.toNat]? with
   | none=>exact .stuck
   | some d=>
    have hV:=(List.getElem?_eq_some_iff.mp hc).1
    refine Exists.elim (rl.get hc) fun v zz=>aC zz fun hv rv=>?_
    refine Ev.val fun Q E hQ=>subscriptTail_ops (bH ha).typeIs F.slot_list_getitem.lookup (wpAny_getItem_list (bH ha) h0 (by lia) (x:=v) (by rw[<- Array.getElem?_toList];exact hv) (hQ v s.heap s.toks (.refl _ _) rv fun q=>by contradiction)) yK ht
  ·exact .stuck
 ·rename_i xs
  cases y<;>first | exact .stuck | skip
  rename_i k
  rw[Ms]
  refine Tr (uI rx) fun a dd sl vs nn zz=>p4 zz fun aw hX ha hl rl=>?_;clear zz;subst aw
  refine Exists.elim (gm ry) fun u aw=>?_;subst aw
  split
  ·rename_i h0
   cases hc:xs[k.toNat]? with
   | none=>exact .stuck
   | some d=>
    have hV:=(List.getElem?_eq_some_iff.mp hc).1
    have hlen:=rl.length
    refine Exists.elim (rl.get hc) fun v zz=>aC zz fun hv rv=>?_
    have hT:s.TypeIs (.ref a) "tuple":=⟨_,ha,rfl⟩
    refine Ev.val fun Q E hQ=>subscriptTail_ops hT F.slot_tuple_getitem.lookup (getItem_meets hT (by decide) F.slot_tuple_getitem F.entry_tuple_getitem (F.args_tuple_getitem_2 _ _) (BD a vs nn dd sl k u k.toNat v (by lia) (by lia) (jF h0 (by simp at hlen;lia)) (by rw[<- Array.getElem?_toList];exact hv)) ⟨ha,hQ v s.heap s.toks (.refl _ _) rv fun q=>by contradiction⟩) yK ht
  ·exact .stuck
theorem Dn {value:Expr}{x:V}{o:Value}{g:Addr->Obj->Prop} (h:x.je=true) (r:Rep g x o) (v:Value):letTemporaryGo value o v=pure ():=by
 cases x<;>first | (contradiction;done) | skip
 ·refine cH r fun O O O O=>?_;cases value<;>rfl
 ·refine aU r fun O O O O=>?_;cases value<;>rfl
theorem aM.idx {f1 f2:Bool}{value slice:Expr}{pos:Pos}{a i:PE} (h:aM prog w base cl D n f1 sc j value a) (h':aM prog w base cl D n f2 sc j slice i)
  (hs:∀ o i,∃ ops,subscripted slice false o i=operate ops (getItem o i)) (ht:a.isName=false∨∀ o r,letTemporaryGo value o r=pure ()) :
  aM prog w base cl D n false sc j (.Subscript value slice pos) (.idx a i):=fun A X ec J s x Q E p au=>by
 refine o6 (h A X ec J s x _ _ ⟨fun d v aj tk e k rp O=>?_,p.ex.of⟩ (R.aN au))
 have bS:=p.step (tk:=tk) e k
 have aq:=R.aZ au e
 refine h' A X ec J _ (x.kept k) _ _ ⟨fun KG u aE bF bM k₂ gW O=>?_,bS.ex.of⟩ (R.aN aq)
 have dj:=bS.step (tk:=bF) bM k₂
 have cI:=R.aZ aq bM
 refine kM.guard (s:={ s with heap:=aE,toks:=bF }) (fun hg=>(OW (k₂.rep rp) gW hs ?_).g) _ _ dj cI
 rcases ht with ht | ht
 ·rw[ht,Bool.false_or] at hg;exact Dn hg rp
 ·exact ht _
set_option tactic.hygienic true in
theorem eJ {n d:Nat}{x:V}{v:Value}{a:Nat}{g:Addr->Obj->Prop} (e:bound n d x=some a) (r:Rep g x v):∃ o:Option (Int × Tok),v=partValue o/\(o.map (·.1)).elim d (clipAt n)=a:=by
 cases x<;>first | contradiction | skip
 ·injection e with e;subst e;exact⟨none,yF r,rfl⟩
 ·rename_i i
  injection e with e;subst e
  refine aQ r fun t=>?_
  refine⟨some (i,t),rfl,?_⟩
  show clipAt n i=_
  have:=clipAt_cast n i
  split at this<;>(rename_i q;first | rw[if_pos q] | rw[if_neg q])<;>lia
theorem gZ (o:Option (Int × Tok)):IsPart (partValue o) (o.map (·.1)):=by
 cases o with
 | none=>exact .none
 | some p=>exact .int _ _
theorem pN {α:Type} (l:List α) (a k:Nat):((List.range k).map (a+·)).filterMap (l[·]?)=(l.drop a).take k:=by
 induction k generalizing a with
 | zero=>simp
 | succ k ih=>
  rw[List.range_succ_eq_map]
  simp only[List.map_cons,List.filterMap_cons,List.map_map,Nat.add_zero]
  have e:((fun x=>a+x)∘Nat.succ)=fun x=>(a+1)+x:=by funext x;simp;lia
  rw[e]
  cases q:l[a]? with
  | none=>
   have h1:=List.getElem?_eq_none_iff.mp q
   simp only[ih]
   rw[List.drop_eq_nil_of_le h1,List.drop_eq_nil_of_le (by lia)]
   simp
  | some c=>
   simp only[ih]
   refine Exists.elim (List.getElem?_eq_some_iff.mp q) fun h1 h2=>?_
   rw[List.drop_eq_getElem_cons h1,h2]
   simp
theorem BF (l:List Nat) (lo hi:Option Int):(Builtin.Str.strSliceIndices lo hi 1 l.length).filterMap (l[·]?)=cut l (lo.elim 0 (clipAt l.length)) (hi.elim l.length (clipAt l.length)):=by
 have e:Builtin.Str.strSliceIndices lo hi 1 l.length=sliceRange ((lo.elim 0 (clipAt l.length):Nat):Int) ((hi.elim l.length (clipAt l.length):Nat):Int) 1:=by
  unfold Builtin.Str.strSliceIndices
  cases lo<;>cases hi<;>simp[clipAt_cast]
 rw[e,sliceRange_one,pN]
 rfl
theorem iI {α:Type} (l:List α) (a b:Nat):(cut l a b).length<=l.length:=by unfold cut;simp;lia
theorem Hx (n:Nat) (i:Int):clipAt n i<=n:=by have:=clipAt_cast n i;omega
theorem Dp (n:Nat) (o:Option Int) (d:Nat) (hd:d<=n):o.elim d (clipAt n)<=n:=by cases o;exact hd;exact Hx _ _
theorem BG (n:Nat) (lo hi:Option Int):Builtin.Str.strSliceIndices lo hi 1 n=sliceRange ((lo.elim 0 (clipAt n):Nat):Int) ((hi.elim n (clipAt n):Nat):Int) 1:=by
 unfold Builtin.Str.strSliceIndices
 cases lo<;>cases hi<;>simp[clipAt_cast]
theorem Hy {α:Type} (l:List α) (lo hi:Option Int) (h:(Builtin.Str.strSliceIndices lo hi 1 l.length).length=l.length):cut l (lo.elim 0 (clipAt l.length)) (hi.elim l.length (clipAt l.length))=l:=by
 rw[BG,sliceRange_one] at h
 simp only[List.length_map,List.length_range] at h
 have h1:=Dp l.length lo 0 (Nat.zero_le _)
 have h2:=Dp l.length hi l.length (Nat.le_refl _)
 by_cases hz:l.length=0
 ·have:=List.eq_nil_of_length_eq_zero hz;subst this;simp[cut]
 ·have h3:lo.elim 0 (clipAt l.length)=0:=by lia
  have h4:hi.elim l.length (clipAt l.length)=l.length:=by lia
  rw[h3,h4];simp[cut]
set_option tactic.hygienic true in
theorem KL {value slice:Expr}{x y z:V}{o u v:Value}{sl:Addr} (hX:nu X s.heap) (rx:Rep (seen X s.heap) x o) (ry:Rep (seen X s.heap) y u) (rz:Rep (seen X s.heap) z v) (Um:s.heap.get? sl=some { cls:=.type "slice",data:=.fields #[u,v,.none] })
  (hs:∀ o i,∃ ops,subscripted slice false o i=operate ops (getItem o i)) (ht:∀ r,letTemporaryGo value o r=pure ()) :
  Ev prog w base cl A X true (subscriptTail value slice o (.ref sl)) s (aP x y z):=by
 refine Exists.elim (hs o (.ref sl)) fun ops yK=>?_
 cases x<;>first | exact .stuck | skip
 ·rename_i l
  rw[DR]
  cases ea:bound l.length 0 y with
  | none=>exact .stuck
  | some a=>
  cases eb:bound l.length l.length z with
  | none=>exact .stuck
  | some b=>
   refine bW (fy rx) fun q t zz=>b6 zz fun aw e hl=>?_;clear zz;subst aw
   refine Exists.elim (eJ ea ry) fun ol zz=>aC zz fun aw el=>?_;clear zz;subst aw
   refine Exists.elim (eJ eb rz) fun ou zz=>aC zz fun aw eu=>?_;clear zz;subst aw
   have hlen:=str_len e
   have hf:((Builtin.Str.strSliceIndices (ol.map (·.1)) (ou.map (·.1)) 1 q.length).filterMap (q.cps[·]?))=cut l a b:=by
    rw[hlen,<- el,<- eu,<- BF]
    congr 1
    funext i
    rw[<- Array.getElem?_toList,e]
   refine Ev.flat (fun O O O=>trivial) fun Q E hQ=>subscriptTail_ops (typeIs_str s q t) F.slot_str_getitem.lookup (wpAny_getItem_str_slice (l:=ol) (u:=ou) (st:=none) ⟨_,Um,rfl,rfl⟩ rfl ?_) yK ht
   unfold sliceMade slicePicked
   simp only[Option.map_none,Option.getD_none,beq_self_eq_true,Bool.true_and]
   split
   ·rename_i hw
    have P9:=beq_iff_eq.mp hw
    rw[hlen] at P9
    have e2:cut l a b=l:=by rw[<- el,<- eu];exact Hy l _ _ P9
    exact hQ _ _ (by rw[e2];exact c9 t e hl)
   ·refine⟨?_,hQ _ _ (c9 _ (by rw[hf]) (Nat.le_trans (iI l a b) hl))⟩
    show (List.filterMap _ _).toArray.size<=_
    rw[hf,List.size_toArray]
    have:=iI l a b
    have:=bu
    lia
 ·rename_i l
  rw[DS]
  cases ea:bound l.length 0 y with
  | none=>exact .stuck
  | some a=>
  cases eb:bound l.length l.length z with
  | none=>exact .stuck
  | some b=>
   refine bW (ei rx) fun q t zz=>b6 zz fun aw e hl=>?_;clear zz;subst aw
   refine Exists.elim (eJ ea ry) fun ol zz=>aC zz fun aw el=>?_;clear zz;subst aw
   refine Exists.elim (eJ eb rz) fun ou zz=>aC zz fun aw eu=>?_;clear zz;subst aw
   have hlen:=bf e
   have hf:(KBy.picked q (ol.map (·.1)) (ou.map (·.1))).toList.map UInt8.toNat=cut l a b:=by
    rw[KBc.picked_eq,hlen,el,eu]
    subst e
    simp only[cut,List.map_take,List.map_drop]
   refine Ev.flat (fun O O O=>trivial) fun Q E hQ=>subscriptTail_ops (W.typeIs_bytes s q t) FB.slot_bytes_getitem.lookup (getItem_meets (W.typeIs_bytes s q t) (by decide) FB.slot_bytes_getitem FB.entry_bytes_getitem (FB.args_bytes_getitem_2 _ _) (KBc.meets_slice2 q t sl (gZ ol) (gZ ou)) ⟨⟨_,Um,rfl,rfl⟩,?_,fun t' k=>(hQ _ _ (dH _ hf (Nat.le_trans (iI l a b) hl)))⟩) yK ht
   have:=KBc.size_picked_le q (ol.map (·.1)) (ou.map (·.1))
   have:=bu
   lia
 ·rename_i ds
  rw[DT]
  cases ea:bound ds.length 0 y with
  | none=>exact .stuck
  | some a=>
  cases eb:bound ds.length ds.length z with
  | none=>exact .stuck
  | some b=>
   refine Tr (rS rx) fun l dd Iv vs nn zz=>p4 zz fun aw hXl hl hlen rl=>?_;clear zz;subst aw
   refine Exists.elim (eJ ea ry) fun ol zz=>aC zz fun aw el=>?_;clear zz;subst aw
   refine Exists.elim (eJ eb rz) fun ou zz=>aC zz fun aw eu=>?_;clear zz;subst aw
   have ka:vs.size=ds.length:=by have:=rl.length;simpa using this
   have hp:slicePick vs (ol.map (·.1)) (ou.map (·.1)) none=(cut vs.toList a b).toArray:=by
    rw[slicePick_plain,ka,el,eu];rfl
   refine mL (vs:=(cut vs.toList a b).toArray) (Nat.le_trans (iI ds a b) hlen) hX (by unfold cut;simpa using (rl.drop a).take (b - a)) fun Q E hQ=>subscriptTail_ops (bH hl).typeIs F.slot_list_getitem.lookup (wpAny_getItem_list_slice (bH hl) ⟨_,Um,rfl,rfl⟩ (gZ ol) (gZ ou) (gZ none) (by simp) (by
    show Q _ { s with heap:=s.heap.push { cls:=.type "list",data:=.seq (slicePick vs (ol.map (·.1)) (ou.map (·.1)) none) } }
    rw[hp];exact hQ s.toks) (by have:=bu;lia)) yK ht
def wq (prog:Program) (w:World) (base:Heap) (cl:dC->Value) (D:Fn->List V->R V) (n:Nat) (sc:Scope) (j:List (PySem.Str × Nat)) (o:Option Expr) (p:PE):Prop:=
 ∀ (A:Around) (X:Addr->Prop) (ec:Env) (J:Ρ) (s:Shared),At base n A X none sc j ec J s.heap->kM prog w base cl A X false (evalPart o ec) s (ao D p J)
theorem wq.none:wq prog w base cl D n sc j none (.const .none):=fun A X ec J s x=>(Ev.flat (d:=.none) (fun O O O=>trivial) fun Q E hQ=>wpAny_pure (hQ _ s.toks rQ)).g
theorem wq.some {f1:Bool}{e:Expr}{p:PE} (h:aM prog w base cl D n f1 sc j e p):wq prog w base cl D n sc j (some e) p:=fun A X ec J s x=>(h A X ec J s x).weak
theorem aM.slice {f1:Bool}{fr:Bool}{value:Expr}{lo hi:Option Expr}{sp pos:Pos}{a l u:PE} (h:aM prog w base cl D n f1 sc j value a) (hl:wq prog w base cl D n sc j lo l) (hu:wq prog w base cl D n sc j hi u)
  (ht:a.isName=false∨∀ o r,letTemporaryGo value o r=pure ()) :
  aM prog w base cl D n fr sc j (.Subscript value (.Slice lo hi Option.none sp) pos) (.slice a l u):=fun A X ec J s x Q E p au=>by
 refine o6 (h A X ec J s x _ _ ⟨fun d v aj tk e k rp O=>?_,p.ex.of⟩ (R.aN au))
 have bS:=p.step (tk:=tk) e k
 have aq:=R.aZ au e
 refine OG (hl A X ec J _ (x.kept k) _ _ ⟨fun KG R7 aE bF bM k₂ gW O=>?_,bS.ex.of⟩ (R.aN aq))
 have dj:=bS.step (tk:=bF) bM k₂
 have cI:=R.aZ aq bM
 refine hu A X ec J _ (x.kept (k.trans k₂)) _ _ ⟨fun OQ R8 bG jE r5 gX KH O=>?_,dj.ex.of⟩ (R.aN cI)
 have W7:=dj.step (tk:=jE) r5 gX
 have R9:=R.aZ cI r5
 have ti:=Kept.push base bG { cls:=.type "slice",data:=.fields #[R7,R8,.none] }
 have Sa:=x.low.kept (k.trans (k₂.trans (gX.trans ti)))
 have go:kM prog w base cl A X fr (subscriptTail value (.Slice lo hi Option.none sp) v (.ref bG.objs.size)) { s with heap:=bG.push { cls:=.type "slice",data:=.fields #[R7,R8,.none] },toks:=jE } (R.guard (a.isName||d.je) (aP d KG OQ)):=
  kM.guard fun hg=>by
   have:=KL (prog:=prog) (w:=w) (base:=base) (cl:=cl) (A:=A) (value:=value) (slice:=.Slice lo hi Option.none sp) (s:={ s with heap:=bG.push { cls:=.type "slice",data:=.fields #[R7,R8,.none] },toks:=jE }) (sl:=bG.objs.size) Sa (ti.rep (gX.rep (k₂.rep rp))) (ti.rep (gX.rep gW)) (ti.rep KH) (Heap.get?_push_size _ rfl) (fun O O=>⟨_,rfl⟩) (by
    rcases ht with ht | ht
    ·rw[ht,Bool.false_or] at hg;exact Dn hg rp
    ·exact ht _)
   cases fr
   ·exact this.weak.g
   ·exact this.g
 exact go _ _ (W7.move ti) R9
end
section
variable (prog:Program) (w:World) (base:Heap) (cl:dC->Value) (D:Fn->List V->R V) (n:Nat)
def jG (sc:Scope) (j:List (PySem.Str × Nat)) (e:Expr) (p:uV):Prop:=
 ∀ (A:Around) (X:Addr->Prop) (ec:Env) (J:Ρ) (s:Shared),At base n A X none sc j ec J s.heap->∀ (Q E:Value->Shared->Prop),
  (∀ ds h' o tk,gI D p J=.ok ds->Kept base s.heap h'->bh (h'.push o) X h'.objs.size ds->Q (.ref h'.objs.size) { s with heap:=h'.push o,toks:=tk })->
  Ex base cl s (gI D p J) E->gI D p J≠.stuck->aL (model prog w) A (eval e ec) (fun v s₁=>wpAny (model prog w) A (pyIter v) Q E s₁) E s
end
section
variable {prog:Program}{w:World}{base:Heap}{cl:dC->Value}{A:Around}{X:Addr->Prop}{s:Shared}{D:Fn->List V->R V}{n:Nat}{sc:Scope}{j:List (PySem.Str × Nat)}{K:Frag}
theorem wt {d:V}{z:dC} (e:qp d=.exc z):False:=by
 cases d with
 | str x=>
  rw[w8] at e
  cases q:ascii x<;>rw[q] at e<;>contradiction
 | _=>contradiction
theorem jG.val {f1:Bool}{e:Expr}{p:PE} (h:aM prog w base cl D n f1 sc j e p):jG prog w base cl D n sc j e (.val p):=fun A X ec J s x Q E hQ hE au=>by
 refine h A X ec J s x _ _ ⟨fun d v aj tk e₁ k rp O=>?_,hE.of⟩ (R.aN au)
 cases q:qp d with
 | ok ds=>exact KD (s:={ s with heap:=aj,toks:=tk }) q rp fun o i O=>hQ ds aj o tk ((R.bP e₁).trans q) k i
 | exc z=>exact (wt q).elim
 | stuck=>exact absurd ((R.bP e₁).trans q) au
theorem lJ {pos np:Pos}{es:List Expr}{ps:fZ} (W:Wd K base) (hk:sc.names.lookup (Str.ofString "range")=some .globalImplicit) (hg:nsIn K mainGlobals (Str.ofString "range")=some none) (hb:bootBuiltins (Str.ofString "range")=some (.type "range"))
  (h:kf prog w base cl D n sc j es ps) (r7:∃ (t:Env->Sem Value) (r:Env->List (Bool × Sem Value)),∀ env,starEach es env=(false,t env)::r env) (zv:∀ env,(backTo pos (starEach es env)).any (·.1)=false)
  {ec:Env}{J:Ρ} (x:At base n A X none sc j ec J s.heap) {Q E:Value->Shared->Prop}
  (hQ:∀ ds vs h' tk,cT D ps J=.ok ds->Kept base s.heap h'->az (seen X h') ds vs->wpAny (model prog w) A (call (.type "range") vs []) Q E { s with heap:=h',toks:=tk })
  (hE:Ex base cl s (cT D ps J) E) (au:cT D ps J≠.stuck):aL (model prog w) A (eval (.Call (.Name (Str.ofString "range") np) es [] pos) ec) Q E s:=by
 refine dA (ag (cJ W x.cx.stays x.ge x.scope hk hg hb ?_ (by decide) (by decide)))
 refine dQ (zv ec) ?_
 refine bW r7 fun t r gh=>?_
 have hs:=h A X ec J s pos x
 rw[gh] at hs ⊢
 refine c6 (hs _ _ ⟨fun ds vs h' tk e k rp=>?_,hE⟩ au)
 exact (ag (hQ ds vs h' tk e k rp))
noncomputable def wu (l h:V) (st:Nat):R (List V):=match l,h with
 | .int l,.int h=>R.guard (decide (st=1∨st=2)&&decide (l.natAbs<=1000000)&&decide (h.natAbs<=1000000)) (.ok (iq l h st))
 | _,_=>.stuck
theorem r9 {a b:V}{st:Nat} (h:wu a b st≠.stuck):∃ l u:Int,a=.int l/\b=.int u/\l.natAbs<=1000000/\u.natAbs<=1000000/\wu a b st=.ok (iq l u st):=by
 cases a with
 | int l=>
  cases b with
  | int u=>
   cases q:(decide (st=1∨st=2)&&decide (l.natAbs<=1000000)&&decide (u.natAbs<=1000000)) with
   | true=>
    have q':=Bool.and_eq_true_iff.mp q
    exact⟨l,u,rfl,rfl,of_decide_eq_true (Bool.and_eq_true_iff.mp q'.1).2,of_decide_eq_true q'.2,(show R.guard _ _=_ by rw[q];rfl)⟩
   | false=>exact absurd (show R.guard _ _=_ by rw[q];rfl) h
  | _=>exact absurd rfl h
 | _=>exact absurd rfl h
theorem yL {lo hi:PE}{st:Nat}{J:Ρ}{r:fZ}{c:V} (hr:cT D r J=.ok []∨cT D r J=.ok [c]):gI D (.sO lo hi st) J=(cT D (.cons lo (.cons hi r)) J).bind fun ds=>wu (ds.getD 0 .none) (ds.getD 1 .none) st:=by
 show (ao D lo J).bind (fun l=>(ao D hi J).bind fun h=>wu l h st)=((ao D lo J).bind fun v=>((ao D hi J).bind fun v=>(cT D r J).bind fun vs=>.ok (v::vs)).bind fun vs=>.ok (v::vs)).bind _
 cases ao D lo J with
 | ok a=>
  cases ao D hi J with
  | ok b=>rcases hr with q | q<;>rw[q]<;>rfl
  | exc z=>rfl
  | stuck=>rfl
 | exc z=>rfl
 | stuck=>rfl
theorem R.mQ {α:Type}{c:Bool}{r:R α} (h:R.guard c r≠.stuck):c=true:=by
 unfold R.guard at h
 split at h
 ·assumption
 ·exact absurd rfl h
theorem jG.W8 {f1 f2:Bool}{pos np:Pos}{a b:Expr}{lo hi:PE} (W:Wd K base) (hk:sc.names.lookup (Str.ofString "range")=some .globalImplicit) (hg:nsIn K mainGlobals (Str.ofString "range")=some none) (hb:bootBuiltins (Str.ofString "range")=some (.type "range"))
  (h:aM prog w base cl D n f1 sc j a lo) (h':aM prog w base cl D n f2 sc j b hi) (Sb:notStar a=true) (mP:notStar b=true):jG prog w base cl D n sc j (.Call (.Name (Str.ofString "range") np) [a,b] [] pos) (.sO lo hi 1):=fun A X ec J s x Q E hQ hE au=>by
 rw[yL (r:=.nil) (c:=.none) (.inl rfl)] at hQ hE au
 refine lJ W hk hg hb (.cons h (.cons h' .nil mP) Sb) ⟨_,_,fun O=>aS Sb⟩ (by intro env;rw[aS Sb,aS mP];rfl) x (fun ds vs aj tk e k rp=>?_) hE.of (R.aN au)
 have e':=R.bP (f:=fun ds=>wu (ds.getD 0 .none) (ds.getD 1 .none) 1) e
 have hn:=R.aZ au e
 refine bW (r9 hn) fun l u z=>p4 z fun z1 z2 z3 z4 z5=>?_
 clear z
 have UJ:=e'.trans z5
 have hl:=gY e
 clear e e' z5 hn
 revert rp z1 z2
 refine cE hl fun a r w=>cE w fun b r w=>?_
 obtain rfl:=List.eq_nil_of_length_eq_zero w
 intro rp z1 z2
 obtain rfl:a=.int l:=z1
 obtain rfl:b=.int u:=z2
 refine az.cE rp fun v O r1 rp=>az.cE rp fun v2 O r2 rp=>az.Bm rp ?_
 refine aQ r1 fun t=>?_
 refine aQ r2 fun t2=>?_
 refine call_range_2 (s:={ s with heap:=aj,toks:=tk }) ?_
 exact lI (X:=X) (s:={ s with heap:=aj.push { cls:=.type "range",data:=.fields #[.int l t,.int u t2,.int 1 tk] },toks:=tk+1 }) (st:=1) (IsRange.new aj l u 1 t t2 tk) (.inl rfl) z3 z4 fun o i O=>hQ _ _ o _ UJ (k.trans (Kept.push _ _ _)) i
theorem jG.W9 {f1:Bool}{pos np:Pos}{b:Expr}{hi:PE} (W:Wd K base) (hk:sc.names.lookup (Str.ofString "range")=some .globalImplicit) (hg:nsIn K mainGlobals (Str.ofString "range")=some none) (hb:bootBuiltins (Str.ofString "range")=some (.type "range"))
  (h':aM prog w base cl D n f1 sc j b hi) (mP:notStar b=true):jG prog w base cl D n sc j (.Call (.Name (Str.ofString "range") np) [b] [] pos) (.sO (.const (.int 0)) hi 1):=fun A X ec J s x Q E hQ hE au=>by
 have e0:gI D (.sO (.const (.int 0)) hi 1) J=(cT D (.cons hi .nil) J).bind fun ds=>wu (.int 0) (ds.getD 0 .none) 1:=by
  show (ao D hi J).bind (fun h=>wu (.int 0) h 1)=((ao D hi J).bind fun v=>.ok [v]).bind _
  cases ao D hi J<;>rfl
 rw[e0] at hQ hE au
 refine lJ W hk hg hb (.cons h' .nil mP) ⟨_,_,fun O=>aS mP⟩ (by intro env;rw[aS mP];rfl) x (fun ds vs aj tk e k rp=>?_) hE.of (R.aN au)
 have e':=R.bP (f:=fun ds=>wu (.int 0) (ds.getD 0 .none) 1) e
 have hn:=R.aZ au e
 refine bW (r9 hn) fun l u z=>p4 z fun z1 z2 z3 z4 z5=>?_
 clear z
 have UJ:=e'.trans z5
 have hl:=gY e
 clear e e' z5 hn
 revert rp z2
 refine cE hl fun b r w=>?_
 obtain rfl:=List.eq_nil_of_length_eq_zero w
 intro rp z2
 obtain rfl:b=.int u:=z2
 injection z1 with z1;subst z1
 refine az.cE rp fun v O r1 rp=>az.Bm rp ?_
 refine aQ r1 fun t=>?_
 refine call_range_1 (s:={ s with heap:=aj,toks:=tk }) ?_
 exact lI (X:=X) (s:={ s with heap:=aj.push { cls:=.type "range",data:=.fields #[.int 0 tk,.int u t,.int 1 (tk+1)] },toks:=tk+1+1 }) (st:=1) (IsRange.new aj 0 u 1 tk t (tk+1)) (.inl rfl) z3 z4 fun o i O=>hQ _ _ o _ UJ (k.trans (Kept.push _ _ _)) i
theorem jG.Xa {f1 f2:Bool}{pos np cp:Pos}{a b:Expr}{lo hi:PE}{kk:Nat} (W:Wd K base) (hk:sc.names.lookup (Str.ofString "range")=some .globalImplicit) (hg:nsIn K mainGlobals (Str.ofString "range")=some none) (hb:bootBuiltins (Str.ofString "range")=some (.type "range"))
  (h:aM prog w base cl D n f1 sc j a lo) (h':aM prog w base cl D n f2 sc j b hi) (Sb:notStar a=true) (mP:notStar b=true) :
  jG prog w base cl D n sc j (.Call (.Name (Str.ofString "range") np) [a,b,.Constant (.int 2) kk cp] [] pos) (.sO lo hi 2):=fun A X ec J s x Q E hQ hE au=>by
 rw[yL (r:=.cons (.const (.int 2)) .nil) (c:=.int 2) (.inr rfl)] at hQ hE au
 refine lJ W hk hg hb (.cons h (.cons h' (.cons (aM.int (fr:=false)) .nil) mP) Sb) ⟨_,_,fun O=>aS Sb⟩ (by intro env;rw[aS Sb,aS mP];rfl) x (fun ds vs aj tk e k rp=>?_) hE.of (R.aN au)
 have e':=R.bP (f:=fun ds=>wu (ds.getD 0 .none) (ds.getD 1 .none) 2) e
 have hn:=R.aZ au e
 refine bW (r9 hn) fun l u z=>p4 z fun z1 z2 z3 z4 z5=>?_
 clear z
 have UJ:=e'.trans z5
 have hd:ds.getD 2 .none=.int 2:=by
  revert e
  show ((ao D lo J).bind fun v=>((ao D hi J).bind fun w=>.ok [w,.int 2]).bind fun vs=>.ok (v::vs))=_->_
  cases ao D lo J with
  | ok a=>
   cases ao D hi J with
   | ok b=>intro e;injection e with e;rw[<- e];rfl
   | exc z=>intro e;contradiction
   | stuck=>intro e;contradiction
  | exc z=>intro e;contradiction
  | stuck=>intro e;contradiction
 have hl:=gY e
 clear e e' z5 hn
 revert rp z1 z2 hd
 refine cE hl fun a r w=>cE w fun b r w=>cE w fun c r w=>?_
 obtain rfl:=List.eq_nil_of_length_eq_zero w
 intro rp z1 z2 hd
 obtain rfl:a=.int l:=z1
 obtain rfl:b=.int u:=z2
 obtain rfl:c=.int 2:=hd
 refine az.cE rp fun v O r1 rp=>az.cE rp fun v2 O r2 rp=>az.cE rp fun v3 O r3 rp=>az.Bm rp ?_
 refine aQ r1 fun t=>?_
 refine aQ r2 fun t2=>?_
 refine aQ r3 fun t3=>?_
 refine call_range_3 (s:={ s with heap:=aj,toks:=tk }) (by decide) ?_ (.inl (PyProof.noPylong_small (by decide)))
 exact lI (X:=X) (s:={ s with heap:=aj.push { cls:=.type "range",data:=.fields #[.int l t,.int u t2,.int 2 t3] },toks:=tk }) (st:=2) (IsRange.new aj l u 2 t t2 t3) (.inr rfl) z3 z4 fun o i O=>hQ _ _ o _ UJ (k.trans (Kept.push _ _ _)) i
theorem aM.call {x:PySem.Str}{np pos:Pos}{es:List Expr}{ps:fZ}{f:Fn}{fa:Fn->Addr} (W:Wd K base) (C:wo prog w base cl D n fa) (hk:sc.names.lookup x=some .globalImplicit) (hg:nsIn K mainGlobals x=some (some (.ref (fa f))))
  (hf:∃ c d fd sl,K.lookup (fa f)=some ⟨c,d,.func fd,sl⟩) (h:kf prog w base cl D n sc j es ps) (r7:∃ (t:Env->Sem Value) (r:Env->List (Bool × Sem Value)),∀ env,starEach es env=(false,t env)::r env)
  (zv:∀ env,(backTo pos (starEach es env)).any (·.1)=false) (hd:(x == ("__debug__":PySem.Str))=false):aM prog w base cl D n false sc j (.Call (.Name x np) es [] pos) (.call f ps):=fun A X ec J s a Q E p au=>by
 refine dA (ag (j6 W a.cx.stays a.ge a.scope hk hg ?_ hd))
 refine kR hf fun c d fd sl hl=>?_
 refine ke (o:=⟨c,d,.func fd,sl⟩) (fd:=fd) (zv ec) ?_
 refine bW r7 fun t r gh=>?_
 have hs:=h A X ec J s pos a
 rw[gh] at hs ⊢
 refine c6 (hs _ _ ⟨fun ds vs h' tk e k rp=>?_,p.ex.of⟩ (R.aN au))
 have a':=a.kept k
 exact⟨⟨a'.cx.stays _ _ (W.jC _ _ hl),rfl⟩,C A X { s with heap:=h',toks:=tk } f ds vs a'.cx a'.low a'.new rp _ _ (p.step e k) (R.aZ au e)⟩
end
noncomputable def bA (scope sc:Scope):Scope:=
 { scope with names:=scope.names.map fun (n,k)=>if (k == .free&&sc.kind == .function&&sc.names.lookup n == some .cell) then (n,.cell) else (n,k) }
theorem sd (scope:Scope) (ec:Env):relabel scope ec=bA scope ec.scope:=rfl
set_option tactic.hygienic true in
theorem lookup_mem {α:Type}{x:PySem.Str}{v:α}:∀ {l:List (PySem.Str × α)},l.lookup x=some v->(x,v)∈l
 | [],h=>by contradiction
 | (y,u)::r,h=>by
  rw[List.lookup_cons] at h
  split at h
  ·rename_i q
   injection h with h;subst h
   have:=beq_iff_eq.mp q
   subst this
   exact .head _
  ·exact .tail _ (lookup_mem h)
set_option tactic.hygienic true in
theorem BH {scope:Scope}{ec:Env} (hf:∀ y,(y,NameKind.free)∈scope.names->∃ c,ec.cells.lookup y=some c) :
  ∃ cs,closureFor scope ec=pure cs/\∀ y c,(y,NameKind.free)∈scope.names->ec.cells.lookup y=some c->cs.lookup y=some c:=by
 have go:∀ (l:List (PySem.Str × NameKind)) (cs:List (PySem.Str × Addr)),(∀ y,(y,NameKind.free)∈l->∃ c,ec.cells.lookup y=some c)->
   ∃ Qt,(forIn l cs fun x __s=>
     have cs:=__s;
     match x with
     | (name,kind)=>
      if (kind == NameKind.free)=true then do
       let __do_lift <- cellOf ec name
       have cs:List (PySem.Str × Addr):=(name,__do_lift)::cs
       pure (ForInStep.yield cs)
      else pure (ForInStep.yield cs))=(pure Qt:Sem _)/\(∀ y c,(y,NameKind.free)∈l->ec.cells.lookup y=some c->Qt.lookup y=some c)/\(∀ y c,cs.lookup y=some c->ec.cells.lookup y=some c->Qt.lookup y=some c):=by
  intro l
  induction l with
  | nil=>exact fun cs O=>⟨cs,rfl,fun y c h=>by simp at h,fun y c h O=>h⟩
  | cons x l ih=>
   intro cs hf
   obtain⟨name,kind⟩:=x
   rw[List.forIn_cons]
   by_cases hk:kind=.free
   ·subst hk
    refine Exists.elim (hf name (.head _)) fun a ha=>?_
    refine Exists.elim (ih ((name,a)::cs) fun y hy=>hf y (.tail _ hy)) fun Qt zz=>b6 zz fun e1 e2 e3=>?_
    have keep:∀ y c,(y=name∨cs.lookup y=some c)->ec.cells.lookup y=some c->Qt.lookup y=some c:=fun y c h1 h2=>by
     refine e3 y c ?_ h2
     rw[List.lookup_cons]
     split
     ·rename_i q
      have:=beq_iff_eq.mp q
      subst this
      rw[ha] at h2;exact h2
     ·rename_i q
      rcases h1 with h1 | h1
      ·subst h1;simp at q
      ·exact h1
    refine⟨Qt,?_,fun y c hm h2=>?_,fun y c h1 h2=>keep y c (.inr h1) h2⟩
    ·show ((cellOf ec name >>= _) >>= _)=_
     unfold cellOf
     rw[ha]
     exact e1
    ·rcases List.mem_cons.mp hm with q | q
     ·exact keep y c (.inl (Prod.mk.inj q).1) h2
     ·exact e2 y c q h2
   ·refine Exists.elim (ih cs fun y hy=>hf y (.tail _ hy)) fun Qt zz=>b6 zz fun e1 e2 e3=>?_
    refine⟨Qt,?_,fun y c hm h2=>?_,e3⟩
    ·have:(kind == NameKind.free)=false:=by simpa using hk
     show ((if (kind == NameKind.free)=true then _ else _) >>= _)=_
     rw[if_neg (ne_true_of_eq_false this)]
     exact e1
    ·rcases List.mem_cons.mp hm with q | q
     ·injection q with q zq;subst q zq;exact absurd rfl hk
     ·exact e2 y c q h2
 refine Exists.elim (go scope.names [] hf) fun cs zz=>b6 zz fun e1 e2 O=>?_
 refine⟨cs,?_,e2⟩
 show (forIn scope.names ([]:List (PySem.Str × Addr)) _ >>= fun cs=>pure cs)=pure cs
 exact (congrArg (· >>= fun cs=>pure cs) e1).trans rfl
theorem Hz {prog:Program}{w:World}{A:Around}{E:Value->Shared->Prop}{X:Addr->Prop}{s:Shared}{it:Addr}{ds:List V}{Q:Value->Shared->Prop} (x:bh s.heap X it ds) (h:Q (.ref it) s):wpAny (model prog w) A (pyIter (.ref it)) Q E s:=by
 cases x with
 | list y l n r=>exact wpAny_pyIter_listiter y h
 | str y=>exact wpAny_pyIter_striter_ascii y h
 | bytes y=>exact KBw.pyIter_self y h
 | range y=>exact wpAny_pyIter_rangeiter y h
theorem Rep.more {X Y:Addr->Prop}{h:Heap}{d:V}{v:Value} (r:Rep (seen X h) d v) (k:∀ b,Y b->X b∨h.get? b=none):Rep (seen Y h) d v:=
 r.mono fun b o e O=>⟨e.1,fun y=>(k b y).elim e.2 fun q=>by have e1:=e.1;rw[q] at e1;contradiction⟩
theorem Rep.extBut {X:Addr->Prop}{h h':Heap}{a:Addr}{d:V}{v:Value} (r:Rep (seen X h) d v) (t:Heap.ExtBut a h h') (x:X a):Rep (seen X h') d v:=
 r.mono fun b o e O=>⟨t b o (fun q=>e.2 (q ▸ x)) e.1,e.2⟩
theorem az.extBut {X:Addr->Prop}{h h':Heap}{a:Addr}{d:List V}{v:List Value} (r:az (seen X h) d v) (t:Heap.ExtBut a h h') (x:X a):az (seen X h') d v:=
 r.mono fun b o e O=>⟨t b o (fun q=>e.2 (q ▸ x)) e.1,e.2⟩
theorem bh.extBut {h h':Heap}{X:Addr->Prop}{it a:Addr}{ds:List V} (x:bh h X it ds) (t:Heap.ExtBut a h h') (au:it≠a) (xa:X a):bh h' X it ds:=by
 cases x with
 | list y l n r=>
  refine Exists.elim y fun o zz=>aC zz fun e c=>?_
  refine Exists.elim l fun o' zz=>aC zz fun e' c'=>?_
  exact .list ⟨o,t _ _ au e,c⟩ ⟨o',t _ _ (fun q=>n (q ▸ xa)) e',c'⟩ n (r.extBut t xa)
 | str y=>refine Exists.elim y fun o zz=>aC zz fun e c=>?_;exact .str ⟨o,t _ _ au e,c⟩
 | bytes y=>refine Exists.elim y fun o zz=>aC zz fun e c=>?_;exact .bytes ⟨o,t _ _ au e,c⟩
 | range y=>exact .range (t _ _ au y)
theorem bh.more {X Y:Addr->Prop}{h:Heap}{it:Addr}{ds:List V} (x:bh h X it ds) (k:∀ b,Y b->X b∨h.get? b=none):bh h Y it ds:=by
 cases x with
 | list y l n r=>
  refine Exists.elim (id l) fun o' zz=>aC zz fun e' c'=>?_
  exact .list y l (fun q=>(k _ q).elim n fun z=>by rw[e'] at z;contradiction) (r.mono fun b o e O=>⟨e.1,fun y=>(k b y).elim e.2 fun q=>by have e1:=e.1;rw[q] at e1;contradiction⟩)
 | str y=>exact .str y
 | bytes y=>exact .bytes y
 | range y=>exact .range y
set_option tactic.hygienic true in
theorem KN {base:Heap}{n:Nat}{A:Around}{X Y:Addr->Prop}{sc scope:Scope}{j cap:List (PySem.Str × Nat)}{ec:Env}{J:Ρ}{h₀ h:Heap}{x:PySem.Str}{k:Nat}{C:Addr}{cs:List (PySem.Str × Addr)}{m:PySem.Str->Option Value}{d:V}{v:Value}
  (a:At base n A X none sc j ec J h₀) (kp:Kept base h₀ h) (hY:∀ b,Y b->X b∨(h₀.get? b=none/\∃ o,h.get? b=some o)) (hC:h.Ns C m) (hm:m x=some v) (hr:Rep (seen Y h) d v)
  (ef:scope.kind=.function) (dv:∀ y∈scope.names,y.2≠.cell) (hx:scope.names.lookup x=some .local) (mR:∀ y,(y,NameKind.free)∈scope.names->sc.names.lookup y=some .cell)
  (Mj:∀ y c,(y,NameKind.free)∈scope.names->ec.cells.lookup y=some c->cs.lookup y=some c)
  (BI:∀ y i,cap.lookup y=some i->j.lookup y=some i/\i≠k/\(y,NameKind.free)∈scope.names/\(bA scope sc).names.lookup y=some .cell) :
  At base n A Y none (bA scope sc) ((x,k)::cap) (compEnvC scope cs C ec) (J.set k (some d)) h:=by
 have Tg:=a.scope
 have ha:=a.kept kp
 refine⟨fun y i d' e1 e2=>?_,ha.cx,⟨?_,ha.ge.globals,ha.ge.builtins,fun y hy=>?_⟩,?_,fun b hb=>?_,fun b hb=>?_⟩
 ·rw[List.lookup_cons] at e1
  split at e1
  ·rename_i q
   have:=beq_iff_eq.mp q
   subst this
   cases e1
   rw[List.getElem?_set_self'] at e2
   have hd:d'=d:=by
    cases q2:J[k]? with
    | none=>rw[q2] at e2;cases e2
    | some z=>rw[q2] at e2;cases e2;rfl
   subst hd
   exact⟨v,.inl ⟨lookup_relabel_local hx,m,hC,hm⟩,hr⟩
  ·refine iZ (BI y i e1) fun f1 f2 f3 f4=>?_
   rw[List.getElem?_set_ne (Ne.symm f2)] at e2
   refine Exists.elim (a.rel y i d' f1 e2) fun u zz=>aC zz fun hu ru=>?_
   rcases hu with ⟨q,_⟩ | ⟨_,c,UK,hc⟩
   ·have:=mR y f3
    unfold Env.kindOf at q
    rw[Tg,this] at q;cases q
   ·refine⟨u,.inr ⟨.inl ?_,c,Mj y c f3 UK,kp.cell hc⟩,kp.rep (Rep.more ru fun b y=>(hY b y).imp id And.left)⟩
    show (relabel scope ec).names.lookup y=some .cell
    rw[sd,Tg];exact f4
 ·show (relabel scope ec).kind=.function
  exact ef
 ·have yv:(y,NameKind.free)∈scope.names:=by
   rcases hy with hy | hy
   ·have:=lookup_mem hy
    refine Exists.elim (List.mem_map.mp this) fun mw zz=>aC zz fun h1 h2=>?_;obtain⟨n',k'⟩:=mw
    dsimp only at h2
    split at h2
    ·rename_i q
     cases h2
     simp only[Bool.and_eq_true,beq_iff_eq] at q
     rw[<- q.1.1];exact h1
    ·cases h2;exact absurd rfl (dv _ h1)
   ·have:=lookup_mem hy
    refine Exists.elim (List.mem_map.mp this) fun mw zz=>aC zz fun h1 h2=>?_;obtain⟨n',k'⟩:=mw
    dsimp only at h2
    split at h2
    ·cases h2
    ·cases h2;exact h1
  have h3:=mR y yv
  refine Exists.elim (a.ge.cells y (.inl (by unfold Env.kindOf;rw[Tg];exact h3))) fun c hc=>?_
  exact⟨c,Mj y c yv hc⟩
 ·show relabel scope ec=_
  rw[sd,Tg]
 ·rcases hY b hb with hb | hb
  ·exact ha.low b hb
  ·exact hb.2
 ·rcases hY b hb with hb | hb
  ·exact ha.new b hb
  ·cases q:base.get? b with
   | none=>rfl
   | some o=>have:=a.cx.stays b o q;rw[hb.1] at this;cases this
section
variable (prog:Program) (w:World) (base:Heap) (cl:dC->Value) (D:Fn->List V->R V) (n:Nat)
def tj (sc:Scope) (j:List (PySem.Str × Nat)) (ifs:List Expr) (p:PE):Prop:=
 ∀ (A:Around) (X:Addr->Prop) (ec:Env) (J:Ρ) (s:Shared),At base n A X none sc j ec J s.heap->OL prog w base cl A (forIn ifs true fun c r=>if r=true then do let ok <- isTrue c ec (eval c ec);pure (ForInStep.yield ok) else pure (ForInStep.yield r)) s ((ao D p J).bind V.truth)
end
section
variable {prog:Program}{w:World}{base:Heap}{cl:dC->Value}{A:Around}{X:Addr->Prop}{s:Shared}{D:Fn->List V->R V}{n:Nat}{sc:Scope}{j:List (PySem.Str × Nat)}{K:Frag}
theorem tj.nil:tj prog w base cl D n sc j [] (.const (.bool true)):=fun A X ec J s x Q E p au=>by
 exact yD (p.ok true s.heap s.toks rfl (.refl _ _))
theorem tj.one {c:Expr}{p:PE} (h:gE prog w base cl D n sc j c p):tj prog w base cl D n sc j [c] p:=fun A X ec J s x Q E p au=>yE (h A X ec J s x Q E p au)
theorem BJ {step:V->R (Option V)}{d:V}{ds:List V} (h:eT step (d::ds)≠.stuck):∃ o,step d=.ok o/\eT step (d::ds)=(eT step ds).bind fun ys=>.ok (match o with | some y=>y::ys | none=>ys):=by
 rw[qq] at h ⊢
 cases q:step d with
 | ok o=>rw[q] at h;exact⟨o,rfl,rfl⟩
 | exc z=>rw[q] at h;exact absurd rfl h
 | stuck=>rw[q] at h;exact absurd rfl h
theorem uM {f1:Bool}{elt iter:Expr}{x:PySem.Str}{px pos Sd:Pos}{ifs:List Expr}{scope:Scope}{pO pc:PE}{Ml:uV}{k:Nat}{cap:List (PySem.Str × Nat)}{use:Option (Value->Sem Unit)}
  (hit:jG prog w base cl D n sc j iter Ml) (hc:tj prog w base cl D n (bA scope sc) ((x,k)::cap) ifs pc) (he:aM prog w base cl D n f1 (bA scope sc) ((x,k)::cap) elt pO)
  (ef:scope.kind=.function) (dv:∀ y∈scope.names,y.2≠.cell) (hx:scope.names.lookup x=some .local) (lG:∀ y∈scope.names,y.2=.local->scope.names.lookup y.1=some .local)
  (mR:∀ y,(y,NameKind.free)∈scope.names->sc.names.lookup y=some .cell)
  (BI:∀ y i,cap.lookup y=some i->j.lookup y=some i/\i≠k/\(y,NameKind.free)∈scope.names/\(bA scope sc).names.lookup y=some .cell)
  (hs:∀ env x,foldedSetIterable iter env x=pure x) {ec:Env}{J:Ρ} (a:At base n A X none sc j ec J s.heap) {Q E:Value->Shared->Prop}
  (pI:∀ done h' tk aaP C,ao D (.comp pO k Ml pc) J=.ok (.list done)->Kept base s.heap h'->bE h' X aaP (.list done)->s.heap.get? aaP=none->s.heap.get? C=none->aaP≠C->(∃ m,h'.Ns C m)->compPost (model prog w) A E use Q (.ref aaP) C (.ok .next) { s with heap:=h',toks:=tk })
  (hE:Ex base cl s (ao D (.comp pO k Ml pc) J) E) (au:ao D (.comp pO k Ml pc) J≠.stuck) :
  aL (model prog w) A (comprehension (.ListComp elt [⟨.Name x px,iter,ifs,0⟩] scope pos) scope ec Sd (newList []) false (eval iter ec) use) Q E s:=by
 rw[CK] at pI hE au
 have Se:∀ y,(y,NameKind.free)∈scope.names->∃ c,ec.cells.lookup y=some c:=fun y hy=>a.ge.cells y (.inl (by unfold Env.kindOf;rw[a.scope];exact mR y hy))
 refine Exists.elim (BH Se) fun cs zz=>aC zz fun Kv Mj=>?_
 refine pM (use:=use) (hs ec) Kv ef lG (hit A X ec J s a _ _ (fun xs h₀ o tk e OX hi=>?_) hE.of (R.aN au))
 have aq:=R.aZ au e
 have j9:=R.mQ aq
 rw[R.bP e,R.guard,j9,if_pos rfl] at pI
 rw[R.guard,j9,if_pos rfl] at aq
 simp only[decide_eq_true_eq] at j9
 have UL:=a.kept OX
 generalize UM:(fun x=>(ao D pc (J.set k (some x))).bind fun t=>t.truth.bind fun b=>if b=true then (ao D pO (J.set k (some x))).bind fun y=>R.ok (some y) else R.ok Option.none)=step at pI aq
 refine wpAny_newObj_type (wpAny_newFunctionEnv dv (by intro y hy;simp at hy) (fun cV Mm Th=>?_) ef)
 generalize Qu:h₀.push o=H1 at hi Mm Th ⊢
 generalize Qv:H1.push { cls:=.type "list",dict:=none,data:=.seq ([]:List Value).toArray }=H2 at Mm Th ⊢
 have ZO:Kept base h₀ H1:=Qu ▸ Kept.push _ _ _
 have Yl:Kept base H1 H2:=Qv ▸ Kept.push _ _ _
 have ZP:h₀.objs.size<H1.objs.size:=by rw[<- Qu,Heap.size_push];lia
 have We:H1.objs.size<H2.objs.size:=by rw[<- Qv,Heap.size_push];lia
 have nI:h₀.get? h₀.objs.size=none:=bV _
 have nD:h₀.get? H1.objs.size=none:=Heap.get?_none_of_le (Nat.le_of_lt ZP)
 have nC:h₀.get? H2.objs.size=none:=Heap.get?_none_of_le (by lia)
 have Ym:H2.get? H2.objs.size=none:=bV _
 have Hv:Heap.ExtBut H2.objs.size H2 cV:=fun b ob hb q=>Th.extBut b ob hb (Heap.get?_push_of_some _ q)
 have Dq:Kept base H2 cV:=(Kept.refl base H2).extBut Ym Hv
 have ti:Kept base h₀ cV:=ZO.trans (Yl.trans Dq)
 have UN:H1.objs.size≠h₀.objs.size:=by lia
 have UO:H2.objs.size≠h₀.objs.size:=by lia
 have HB:H1.objs.size≠H2.objs.size:=Nat.ne_of_lt We
 generalize Yn:H1.objs.size=aaP at UN HB nD ⊢
 generalize hCe:H2.objs.size=C at UO HB nC Ym Hv Mm ⊢
 generalize hIe:h₀.objs.size=I at UN UO nI hi ⊢
 generalize UQ:plus (plus X aaP) C=Y
 have YD:Y aaP:=by rw[<- UQ];exact .inl (.inr rfl)
 have YC:Y C:=by rw[<- UQ];exact .inr rfl
 have Yo:∀ b,Y b->X b∨b=aaP∨b=C:=fun b hb=>by
  rw[<- UQ] at hb
  rcases hb with (hb | hb) | hb
  ·exact .inl hb
  ·exact .inr (.inl hb)
  ·exact .inr (.inr hb)
 have hXY:∀ b,X b->Y b:=fun b hb=>by rw[<- UQ];exact .inl (.inl hb)
 have ZQ:H1.get? aaP=none:=Yn ▸ bV _
 have ZR:H1.get? C=none:=Heap.get?_none_of_le (by lia)
 have Dr:bh cV Y I xs:=Dq.iter (Yl.iter (hi.more fun b hb=>(Yo b hb).imp id fun q=>q.elim (fun q=>q ▸ ZQ) fun q=>q ▸ ZR))
 have UR:PlainL cV aaP #[]:=⟨_,0,Hv _ _ HB (Qv ▸ Yn ▸ Heap.get?_push_size _ rfl),rfl,rfl,rfl⟩
 have loop:∀ dJ:Shared,dJ={ s with heap:=cV,toks:=tk+([]:List (PySem.Str × Value)).length }->
   b9 (model prog w) A (.compLoop (.ListComp elt [⟨.Name x px,iter,ifs,0⟩] scope pos) 0 (.ref I) (.ref aaP) (compEnvC scope cs C ec)) (compPost (model prog w) A E use Q (.ref aaP) C) dJ:=by
  rintro dJ rfl
  refine By (fun N s'=>∃ (ds done:List V) (ys:Array Value) (m:PySem.Str->Option Value) (h:Heap) (t:Nat),s'={ s with heap:=h,toks:=t }/\N=ds.length/\Kept base h₀ h/\bh h Y I ds/\h.Ns C m/\
   PlainL h aaP ys/\az (seen Y h) done ys.toList/\(eT step ds).bind (fun r=>.ok (done++r))=eT step xs/\done.length+ds.length<=lim) ?_ xs.length ?_
  ·rintro N _ ⟨ds,done,ys,m,h,t,rfl,rfl,kh,ih,nh,lh,rh,eh,hl⟩
   have ah:=UL.kept kh
   have Qw:lim<=16777216:=by decide
   refine eR (id nh) fun on en pn zz=>b6 zz fun Yp Yq Yr=>?_
   cases ds with
   | nil=>
    refine yH (s:={ s with heap:=h,toks:=t }) ah.cx.held ih fun h' th=>?_
    have ZS:=th.kept kh nI
    have l':PlainL h' aaP ys:=lh.extBut (fun b o hb q=>th.other b o hb q) UN
    have r':az (seen (plus X aaP) h') done ys.toList:=(th.kb rh).less fun b hb=>by rw[<- UQ];exact .inl hb
    have UT:eT step xs=.ok done:=by rw[<- eh];exact congrArg R.ok (List.append_nil _)
    refine bW l' fun oD UU zz=>iZ zz fun eD cD pD dD=>?_
    exact pI done h' t aaP C (by rw[UT];rfl) (OX.trans ZS) ⟨oD,ys,UU,eD,cD,pD,dD,by simp at hl;lia,r'⟩ (OX.missing nD) (OX.missing nC) HB ⟨m,on,en,pn,th.other _ _ UO Yp,Yq,Yr⟩
   | cons d ds=>
    have Xb:eT step (d::ds)≠.stuck:=fun q=>by rw[q] at eh;exact (R.aN aq) eh.symm
    refine Exists.elim (BJ Xb) fun oo zz=>aC zz fun ZU Ys=>?_
    have nO:=ZU
    rw[<- UM] at nO
    refine uL (s:={ s with heap:=h,toks:=t }) ih fun aj Xc v th UW rv=>?_
    have UX:=th.kept kh nI
    have UY:aj.Ns C m:=⟨on,en,pn,th.other _ _ UO Yp,Yq,Yr⟩
    refine wpAny_assign_Name (wpAny_storeName_local (s:={ s with heap:=aj,toks:=Xc }) (lookup_relabel_local hx) UY (fun aE Ds sb=>?_) (by simp[compEnvC,relabel,ef]))
    have KP:=UX.extBut nC sb.extBut
    have Qx:PlainL aE aaP ys:=(lh.extBut (fun b o hb q=>th.other b o hb q) UN).extBut sb.extBut HB
    have KQ:=(th.kb rh).extBut sb.extBut YC
    have Qy:=UW.extBut sb.extBut (Ne.symm UO) YC
    have jC:∀ {bG:Heap},Kept base aE bG->At base n A Y none (bA scope sc) ((x,k)::cap) (compEnvC scope cs C ec) (J.set k (some d)) bG:=fun gX=>
     KN (Y:=Y) UL (KP.trans gX) (fun b hb=>(Yo b hb).imp id fun q=>by
      have lD:=Qx
      refine bW lD fun oD O zz=>aC zz fun eD O=>?_
      refine eR (id Ds) fun oC O O zz=>aC zz fun eC O=>?_
      rcases q with q | q
      ·subst q;exact⟨nD,(gX.same eD).imp fun O z=>z.1⟩
      ·subst q;exact⟨nC,(gX.same eC).imp fun O z=>z.1⟩) (gX.ns Ds) (if_pos rfl) (gX.rep (rv.extBut sb.extBut YC)) ef dv hx mR Mj BI
    refine hc A Y _ (J.set k (some d)) _ (jC (.refl _ _)) _ _ ⟨fun b bG UZ eb gX=>?_,fun z O O O q=>?_⟩ (fun q=>?_)
    ·have Qz:PlainL bG aaP ys:=by
      refine bW Qx fun oD UU zz=>iZ zz fun eD cD pD dD=>?_
      exact⟨oD,UU,gX.get eD (dG dD),cD,pD,dD⟩
     have mP:(if b=true then (ao D pO (J.set k (some d))).bind fun y=>R.ok (some y) else R.ok Option.none)=.ok oo:=by
      rw[<- nO]
      dsimp only
      cases q:ao D pc (J.set k (some d)) with
      | ok tv=>rw[q] at eb;show _=(V.truth tv).bind _;rw[show V.truth tv=.ok b from eb];rfl
      | exc z=>rw[q] at eb;contradiction
      | stuck=>rw[q] at eb;cases eb
     cases b with
     | false=>
      rw[if_neg (by decide)] at mP ⊢
      injection mP with mP;subst mP
      refine⟨ds.length,by simp,ds,done,ys,_,bG,UZ,rfl,rfl,KP.trans gX,gX.iter Qy,gX.ns Ds,Qz,gX.kb KQ,?_,by simp at hl;lia⟩
      rw[<- eh,Ys]
      cases eT step ds<;>rfl
     | true=>
      rw[if_pos rfl] at mP ⊢
      refine he A Y _ (J.set k (some d)) { s with heap:=bG,toks:=UZ } (jC gX) _ _ ⟨fun y v' cV U0 ey ti ry O=>?_,fun z O O O q=>?_⟩ (fun q=>?_)
      ·rw[ey] at mP
       injection mP with mP;subst mP
       have U1:PlainL cV aaP ys:=by
        refine bW Qz fun oD UU zz=>iZ zz fun eD cD pD dD=>?_
        exact⟨oD,UU,ti.get eD (dG dD),cD,pD,dD⟩
       have OY:=gX.trans ti
       have ka:=KQ.length
       refine list_append_plainL (s:={ s with heap:=cV,toks:=U0 }) U1 (fun wi U2 yM=>?_) (by have:=bu;simp at ka hl;lia)
       refine⟨ds.length,by simp,ds,done++[y],_,(fun z=>if z=x then some v else m z),wi,U0,rfl,rfl,?_,?_,?_,U2,?_,?_,by simp at hl ⊢;lia⟩
       ·exact (KP.trans OY).extBut nD yM.extBut
       ·exact (OY.iter Qy).extBut yM.extBut (Ne.symm UN) YD
       ·refine eR (OY.ns Ds) fun oC ZV pC zz=>b6 zz fun c1 c2 c3=>?_
        exact⟨oC,ZV,pC,yM.extBut _ _ (Ne.symm HB) c1,c2,c3⟩
       ·rw[Array.toList_push]
        exact ((OY.kb KQ).extBut yM.extBut YD).append (.cons (ry.extBut yM.extBut YD) .nil)
       ·rw[<- eh,Ys]
        cases eT step ds<;>first | rfl | exact congrArg R.ok (List.append_assoc ..)
      ·rw[q] at mP;contradiction
      ·rw[q] at mP;contradiction
    ·exfalso
     dsimp only at nO
     cases q2:ao D pc (J.set k (some d)) with
     | ok tv=>rw[q2] at q nO;rw[R.bP rfl,show V.truth tv=.exc z from q] at nO;contradiction
     | exc z'=>rw[q2] at nO;contradiction
     | stuck=>rw[q2] at nO;contradiction
    ·dsimp only at nO
     cases q2:ao D pc (J.set k (some d)) with
     | ok tv=>rw[q2] at q nO;rw[R.bP rfl,show V.truth tv=.stuck from q] at nO;contradiction
     | exc z'=>rw[q2] at nO;contradiction
     | stuck=>rw[q2] at nO;contradiction
  ·exact⟨xs,[],#[],_,cV,_,rfl,rfl,ti,Dr,Mm,UR,.nil,by cases eT step xs<;>rfl,by simpa using j9⟩
 exact yC (loop _ rfl) (Hz Dr (loop _ rfl))
theorem bE.extBut {h h':Heap}{a b:Addr}{ds:List V} (o:bE h X a (.list ds)) (t:Heap.ExtBut b h h') (au:a≠b) (hb:∃ m,h.Ns b m):bE h' X a (.list ds):=by
 refine eR o fun o vs n zz=>DP zz fun e c dn d l r=>?_
 refine⟨o,vs,n,t _ _ au e,c,dn,d,l,r.mono fun z oz q sh=>⟨t _ _ (fun y=>?_) q.1,q.2⟩⟩
 subst y
 refine kR hb fun O on O O zz=>b6 zz fun h1 h2 O=>?_
 have h3:=q.1
 rw[h1] at h3;injection h3 with h3;subst h3
 rcases sh with ⟨_,_,w⟩ | ⟨_,_,w⟩<;>(rw[h2] at w;contradiction)
theorem OZ {fr f1:Bool}{elt iter:Expr}{x:PySem.Str}{px pos:Pos}{ifs:List Expr}{scope:Scope}{pO pc:PE}{Ml:uV}{k:Nat}{cap:List (PySem.Str × Nat)}
  (hit:jG prog w base cl D n sc j iter Ml) (hc:tj prog w base cl D n (bA scope sc) ((x,k)::cap) ifs pc) (he:aM prog w base cl D n f1 (bA scope sc) ((x,k)::cap) elt pO)
  (ef:scope.kind=.function) (dv:∀ y∈scope.names,y.2≠.cell) (hx:scope.names.lookup x=some .local) (lG:∀ y∈scope.names,y.2=.local->scope.names.lookup y.1=some .local)
  (mR:∀ y,(y,NameKind.free)∈scope.names->sc.names.lookup y=some .cell)
  (BI:∀ y i,cap.lookup y=some i->j.lookup y=some i/\i≠k/\(y,NameKind.free)∈scope.names/\(bA scope sc).names.lookup y=some .cell)
  (hs:∀ env x,foldedSetIterable iter env x=pure x):aM prog w base cl D n fr sc j (.ListComp elt [⟨.Name x px,iter,ifs,0⟩] scope pos) (.comp pO k Ml pc):=fun A X ec J s a Q E p au=>by
 refine uM (use:=none) hit hc he ef dv hx lG mR BI hs a (fun done h' tk aaP C e kp o nD nC We hm=>?_) p.ex au
 obtain⟨m,Dj⟩:=id hm
 refine⟨m,Dj,fun Mk sb=>?_⟩
 have o':=o.extBut sb.extBut We hm
 exact p.ok _ _ Mk tk e (kp.extBut nC sb.extBut) (o'.rep (a.low.none nD)) fun O=>⟨_,rfl,nD,o'⟩
end
structure Mod (b:Addr) (h h':Heap):Prop where
 other:Heap.ExtBut b h h'
 here:∃ o o',h.get? b=some o/\h'.get? b=some o'/\(∀ vs,o.data≠.fields vs)/\(∀ v,o.data≠.cell v)/\(book o->book o')
section
variable {base h₀ h h':Heap}{b:Addr}{X:Addr->Prop}
theorem Mod.kept (m:Mod b h h') (k:Kept base h₀ h) (n:h₀.get? b=none):Kept base h₀ h':=k.extBut n m.other
theorem Mod.rep {d:V}{v:Value} (m:Mod b h h') (x:X b∨∃ o,h.get? b=some o/\book o) (r:Rep (seen X h) d v):Rep (seen X h') d v:=
 r.mono fun a o e s=>⟨m.other a o (fun q=>by
  subst q
  rcases x with x | ⟨o',e',x⟩
  ·exact e.2 x
  ·have e1:=e.1;rw[e'] at e1;injection e1 with e1;subst e1;exact b8 s x) e.1,e.2⟩
theorem Mod.kb {d:List V}{v:List Value} (m:Mod b h h') (x:X b∨∃ o,h.get? b=some o/\book o) (r:az (seen X h) d v):az (seen X h') d v:=
 r.mono fun a o e s=>⟨m.other a o (fun q=>by
  subst q
  rcases x with x | ⟨o',e',x⟩
  ·exact e.2 x
  ·have e1:=e.1;rw[e'] at e1;injection e1 with e1;subst e1;exact b8 s x) e.1,e.2⟩
theorem Mod.own {a:Addr}{d:V} (m:Mod b h h') (hb:∃ o,h.get? b=some o/\book o) (r:bE h X a d):bE h' X a d:=by
 have au:∀ o,h.get? a=some o->¬ book o->a≠b:=fun o e n q=>by
  refine Exists.elim hb fun o' zz=>aC zz fun e' x=>?_
  rw[q,e'] at e;injection e with e;subst e;exact n x
 exact r.imp (fun o e nb O=>m.other _ _ (au o e nb) e) (m.kb (.inr hb))
theorem Mod.chain {n:Nat}{a:Addr} (m:Mod b h h') (c:Chain h n a):Chain h' n a:=c.keeps fun O z o O cz e O O=>m.other z o (fun q=>by
 subst q
 refine bW m.here fun pJ se zz=>iZ zz fun e1 O f O=>?_
 refine eR cz.get fun O0 vs O zz=>p4 zz fun e3 O O d O=>?_
 rw[e1] at e3;injection e3 with e3;subst e3;exact f _ d) e
theorem Mod.held {A:Around} (m:Mod b h h') (x:cB A h):cB A h':=by
 rcases x with x | ⟨a,n,x,c⟩
 ·exact .inl x
 ·exact .inr ⟨a,n,x,m.chain c⟩
theorem Mod.frames (m:Mod b h h'):∀ {l:List Env},Frames base h l->Frames base h' l
 | [],_=>trivial
 | _::_,⟨hk,⟨L,o,hf,hn,ho,hc,hd⟩,hr⟩=>by
  refine⟨hk,?_,m.frames hr⟩
  by_cases q:L=b
  ·subst q
   refine bW m.here fun pJ se zz=>p4 zz fun e1 e2 O O f=>?_
   rw[ho] at e1;injection e1 with e1;subst e1
   exact⟨L,se,hf,hn,e2,f hc,(f hc).eI⟩
  ·exact⟨L,o,hf,hn,m.other _ _ q ho,hc,hd⟩
theorem Mod.low (m:Mod b h h') (x:nu X h):nu X h':=fun a y=>by
 refine Exists.elim (x a y) fun o e=>?_
 by_cases q:a=b
 ·subst q;refine bW m.here fun O se zz=>b6 zz fun O e2 O=>?_;exact⟨se,e2⟩
 ·exact⟨o,m.other _ _ q e⟩
theorem Mod.cx {A:Around}{n:Nat} (m:Mod b h h') (hb:base.get? b=none) (c:Cx base A h n):Cx base A h' n:=
 ⟨let ⟨l,a,f⟩:=c.stack;⟨l,a,m.frames f⟩,fun z o e=>m.other z o (fun q=>by rw[q,hb] at e;contradiction) (c.stays z o e),m.held c.held,c.depth,c.units⟩
theorem Mod.ns {a:Addr}{f:PySem.Str->Option Value} (m:Mod b h h') (au:a≠b) (n:h.Ns a f):h'.Ns a f:=by
 refine eR n fun o es ep zz=>b6 zz fun h1 h2 r=>?_
 exact⟨o,es,ep,m.other _ _ au h1,h2,r⟩
theorem Mod.cell {a:Addr}{v:Option Value} (m:Mod b h h') (n:h.IsCell a v):h'.IsCell a v:=by
 refine Exists.elim n fun o zz=>aC zz fun h1 h2=>?_
 refine⟨o,m.other _ _ (fun q=>?_) h1,h2⟩
 subst q
 refine bW m.here fun pJ O zz=>p4 zz fun e1 O O f O=>?_
 rw[h1] at e1;injection e1 with e1;subst e1;exact f _ h2
theorem cW.rep {aj:Heap}{d:V}{v:Value} (k:cW base aj h h') (r:Rep (seen X h) d v):Rep (seen X h') d v:=
 r.mono fun a o e s=>⟨k.get e.1 (b8 s) (by rcases s with ⟨_,_,q⟩ | ⟨_,_,q⟩<;>(intro vs z;rw[q] at z;contradiction)),e.2⟩
theorem cW.ns {aj:Heap}{a:Addr}{f:PySem.Str->Option Value} (k:cW base aj h h') (n:h.Ns a f):h'.Ns a f:=by
 refine eR n fun o es ep zz=>b6 zz fun h1 h2 r=>?_
 refine Exists.elim (k.same h1 (by intro vs q;rw[h2] at q;contradiction)) fun o' zz=>b6 zz fun e' d' O=>?_
 exact⟨o',es,ep,e',d'.trans h2,r⟩
theorem cW.cell {aj:Heap}{a:Addr}{v:Option Value} (k:cW base aj h h') (n:h.IsCell a v):h'.IsCell a v:=by
 refine Exists.elim n fun o zz=>aC zz fun h1 h2=>?_
 refine Exists.elim (k.same h1 (by intro vs q;rw[h2] at q;contradiction)) fun o' zz=>b6 zz fun e' d' O=>?_
 exact⟨o',e',d'.trans h2⟩
end
theorem Sf {h:Heap}{a:Addr}{f g:PySem.Str->Option Value} (x:h.Ns a f) (y:h.Ns a g):f=g:=by
 refine eR x fun o es ep zz=>iZ zz fun h1 h2 O h3=>?_
 refine eR y fun o' es' ep' zz=>iZ zz fun Wf pH O ZW=>?_
 rw[h1] at Wf;injection Wf with Wf;subst Wf
 rw[h2] at pH;injection pH with pH;subst pH
 funext z
 rw[<- h3 z,ZW z]
theorem bE.there {h:Heap}{X:Addr->Prop}{a:Addr}{d:V} (r:bE h X a d):∃ o,h.get? a=some o/\¬ book o/\∀ vs,o.data≠.fields vs:=by
 cases d<;>first | exact r.elim | skip
 ·refine eR r fun o y n zz=>p4 zz fun e c dn hd r=>?_;exact⟨o,e,gA hd,by intro _ q;rw[hd] at q;contradiction⟩
 ·refine eR r fun o vs n zz=>DP zz fun e c dn hd l r=>?_;exact⟨o,e,dG hd,by intro _ q;rw[hd] at q;contradiction⟩
theorem bE.plain {h:Heap}{X:Addr->Prop}{a:Addr}{d:V} (r:bE h X a d):∃ o,h.get? a=some o/\(∀ vs,o.data≠.fields vs)/\∀ v,o.data≠.cell v:=by
 cases d<;>first | exact r.elim | skip
 ·refine eR r fun o y n zz=>p4 zz fun e c dn hd r=>?_;exact⟨o,e,(by intro _ q;rw[hd] at q;contradiction),by intro _ q;rw[hd] at q;contradiction⟩
 ·refine eR r fun o vs n zz=>DP zz fun e c dn hd l r=>?_;exact⟨o,e,(by intro _ q;rw[hd] at q;contradiction),by intro _ q;rw[hd] at q;contradiction⟩
structure St (base:Heap) (n:Nat) (A:Around) (X:Addr->Prop) (ow:Owner) (sc:Scope) (j:List (PySem.Str × Nat)) (ec:Env) (J:Ρ) (h₀ h:Heap):Prop where
 at':At base n A X ow sc j ec J h
 top:∃ outer,A.frames=some (ec::outer)
 fr:ec.frame=some ec.locals
 ns:∃ m,h.Ns ec.locals m
 kp:Kept base h₀ h
 nL:h₀.get? ec.locals=none
 own:∀ aaQ a,ow=some (aaQ,a)->h₀.get? a=none/\¬ X a/\base.get? a=none/\∃ o,h.get? a=some o/\¬ book o/\∀ vs,o.data≠.fields vs
 lo:nu X h₀
 held:cB A h₀
 stays:base.StaysIn h₀
section
variable {base:Heap}{n:Nat}{A:Around}{X:Addr->Prop}{ow:Owner}{sc:Scope}{j:List (PySem.Str × Nat)}{ec:Env}{J:Ρ}{h₀ h h':Heap}
theorem St.frames (x:St base n A X ow sc j ec J h₀ h):∃ outer,A.frames=some (ec::outer)/\Frames base h (ec::outer):=by
 refine Exists.elim x.top fun outer e=>?_
 refine Exists.elim x.at'.cx.stack fun l zz=>aC zz fun e' f=>?_
 rw[e] at e';injection e' with e';subst e'
 exact⟨outer,e,f⟩
theorem St.mS (x:St base n A X ow sc j ec J h₀ h):base.get? ec.locals=none/\∃ o,h.get? ec.locals=some o/\book o:=by
 refine Exists.elim x.frames fun outer zz=>iZ zz fun e O mw O=>?_;obtain⟨L,o,hf,hn,ho,hc,_⟩:=mw
 rw[x.fr] at hf;injection hf with hf;subst hf
 exact⟨hn,o,ho,hc⟩
theorem St.kept (x:St base n A X ow sc j ec J h₀ h) (k:Kept base h h'):St base n A X ow sc j ec J h₀ h':=
 ⟨x.at'.kept k,x.top,x.fr,x.ns.imp fun O=>k.ns,x.kp.trans k,x.nL,fun aaQ a e=>let ⟨h1,h2,h3,o,h4,h5,h6⟩:=x.own aaQ a e;⟨h1,h2,h3,o,k.get h4 h5,h5,h6⟩,x.lo,x.held,x.stays⟩
theorem St.freeze (x:St base n A X ow sc j ec J h₀ h):St base n A X none sc j ec J h₀ h:=by
 cases ow with
 | none=>exact x
 | some p=>
  obtain⟨aaQ,a⟩:=p
  refine b6 (x.own aaQ a rfl) fun O hX O=>?_
  refine⟨⟨fun y i d e1 e2=>?_,x.at'.cx,x.at'.ge,x.at'.scope,x.at'.low,x.at'.new⟩,x.top,x.fr,x.ns,x.kp,x.nL,(fun O O e=>by contradiction),x.lo,x.held,x.stays⟩
  refine Exists.elim (x.at'.rel y i d e1 e2) fun v zz=>aC zz fun hv hr=>?_
  refine⟨v,hv,?_⟩
  by_cases q:i=aaQ
  ·subst q
   refine aC hr.own fun aw o=>?_;subst aw;exact o.rep hX
  ·exact (hr.other q).drop
theorem St.apart {σ':List (PySem.Str × Nat)}{aaQ:Nat}{a:Addr} (x:St base n A X (some (aaQ,a)) sc j ec J h₀ h) (kg:∀ y i,σ'.lookup y=some i->j.lookup y=some i/\i≠aaQ):At base n A (plus X a) none sc σ' ec J h:=by
 obtain⟨_,hX,hb,o,ho,_⟩:=x.own aaQ a rfl
 refine⟨fun y i d e1 e2=>?_,x.at'.cx,x.at'.ge,x.at'.scope,fun b hb=>hb.elim (x.at'.low b) fun q=>⟨o,q ▸ ho⟩,fun b mP=>mP.elim (x.at'.new b) fun q=>q ▸ hb⟩
 obtain⟨e3,e4⟩:=kg y i e1
 obtain⟨v,hv,hr⟩:=x.at'.rel y i d e3 e2
 refine⟨v,hv,?_⟩
 exact hr.other e4
theorem St.store (x:St base n A X ow sc j ec J h₀ h) {y:PySem.Str}{i:Nat}{d:V}{v:Value}{m:PySem.Str->Option Value} (hm:h.Ns ec.locals m) (hn:h'.Ns ec.locals fun z=>if z=y then some v else m z) (hs:Heap.SameBut ec.locals h h')
  (hk:sc.names.lookup y=some .local) (hinj:∀ z,j.lookup z=some i->z=y) (kg:j.lookup y=some i)
  {jH:Owner} (hr:gV h X jH i d v)
  (how:∀ z k d',k≠i->j.lookup z=some k->J[k]?=some (some d')->∃ v',Var h ec z v'/\gV h X jH k d' v')
  (mU:∀ aaQ a,jH=some (aaQ,a)->h₀.get? a=none/\¬ X a/\base.get? a=none/\∃ o,h.get? a=some o/\¬ book o/\∀ vs,o.data≠.fields vs) :
  St base n A X jH sc j ec (J.set i (some d)) h₀ h':=by
 obtain⟨hb,oL,hL,si⟩:=x.mS
 have mP:book oL:=si
 refine eR (id hn) fun se es ep zz=>b6 zz fun e2 d2 O=>?_
 have mod:Mod ec.locals h h':=⟨hs.extBut,oL,se,hL,e2,si.eI,(by refine bW si fun O O q=>?_;intro v z;rw[q] at z;contradiction),fun O=>⟨_,_,d2⟩⟩
 have U3:∀ {k d' v'},gV h X jH k d' v'->gV h' X jH k d' v':=by
  intro k d' v' r
  exact r.imp (mod.own ⟨oL,hL,mP⟩) (mod.rep (.inr ⟨oL,hL,mP⟩))
 refine⟨⟨fun z k d' e1 e2=>?_,mod.cx hb x.at'.cx,x.at'.ge,x.at'.scope,mod.low x.at'.low,x.at'.new⟩,x.top,x.fr,⟨_,hn⟩,mod.kept x.kp x.nL,x.nL,fun aaQ a e=>?_,x.lo,x.held,x.stays⟩
 ·by_cases hz:k=i
  ·subst hz
   obtain rfl:=hinj z e1
   rw[List.getElem?_set_self'] at e2
   have hd:d'=d:=by
    cases q2:J[k]? with
    | none=>rw[q2] at e2;contradiction
    | some z=>rw[q2] at e2;cases e2;rfl
   subst hd
   exact⟨v,.inl ⟨by unfold Env.kindOf;rw[x.at'.scope];exact hk,_,hn,if_pos rfl⟩,U3 hr⟩
  ·rw[List.getElem?_set_ne (Ne.symm hz)] at e2
   refine Exists.elim (how z k d' hz e1 e2) fun u zz=>aC zz fun hu ru=>?_
   have ZX:z≠y:=fun q=>by rw[q,kg] at e1;exact hz (Option.some.inj e1).symm
   refine⟨u,?_,U3 ru⟩
   rcases hu with ⟨q,m',Dj,hu⟩ | ⟨q,c,hc,hu⟩
   ·refine .inl ⟨q,_,hn,?_⟩
    rw[if_neg ZX]
    rw[<- Sf Dj hm];exact hu
   ·exact .inr ⟨q,c,hc,mod.cell hu⟩
 ·obtain⟨h1,h2,h3,o,h4,h5,h6⟩:=mU aaQ a e
  exact⟨h1,h2,h3,o,mod.other _ _ (fun q=>by rw[q,hL] at h4;injection h4 with h4;subst h4;exact h5 mP) h4,h5,h6⟩
theorem St.turn {aaQ:Nat}{a:Addr}{y:PySem.Str}{d iX:V} (x:St base n A X (some (aaQ,a)) sc j ec J h₀ h) (hs:Heap.ExtBut a h h') (ho:bE h' X a d) (kg:j.lookup y=some aaQ) (hj:J[aaQ]?=some (some iX)) :
  St base n A X (some (aaQ,a)) sc j ec (J.set aaQ (some d)) h₀ h':=by
 obtain⟨h1,h2,h3,o,h4,h5,_⟩:=x.own aaQ a rfl
 refine Exists.elim (x.at'.rel y aaQ iX kg hj) fun BK zz=>aC zz fun U4 KR=>?_
 refine Exists.elim KR.own.2.plain fun p zz=>b6 zz fun p1 p2 p3=>?_
 rw[h4] at p1;injection p1 with p1;subst p1
 refine Exists.elim ho.there fun se zz=>b6 zz fun e2 n2 n3=>?_
 refine Exists.elim x.ns fun m hm=>?_
 obtain⟨hb,oL,hL,si⟩:=x.mS
 have U5:ec.locals≠a:=fun q=>by rw[q,h4] at hL;injection hL with hL;subst hL;exact h5 si
 have mod:Mod a h h':=⟨hs,o,se,h4,e2,p2,p3,fun q=>absurd q h5⟩
 refine⟨⟨fun z k d' e1 e2=>?_,mod.cx h3 x.at'.cx,x.at'.ge,x.at'.scope,mod.low x.at'.low,x.at'.new⟩,x.top,x.fr,⟨m,mod.ns U5 hm⟩,mod.kept x.kp h1,x.nL,fun j' a' e=>?_,x.lo,x.held,x.stays⟩
 ·have var:∀ {v},Var h ec z v->Var h' ec z v:=fun hv=>by
   rcases hv with ⟨q,m',Dj,hu⟩ | ⟨q,c,hc,hu⟩
   ·exact .inl ⟨q,m',mod.ns U5 Dj,hu⟩
   ·exact .inr ⟨q,c,hc,mod.cell hu⟩
  by_cases hz:k=aaQ
  ·subst hz
   refine Exists.elim (x.at'.rel z k iX e1 hj) fun v zz=>aC zz fun hv hr=>?_
   rw[List.getElem?_set_self',hj] at e2
   cases e2
   refine⟨v,var hv,?_⟩
   exact .Kn hr.own.1 ho
  ·rw[List.getElem?_set_ne (Ne.symm hz)] at e2
   refine Exists.elim (x.at'.rel z k d' e1 e2) fun v zz=>aC zz fun hv hr=>?_
   refine⟨v,var hv,?_⟩
   exact .j3 hz (mod.rep (.inl (.inr rfl)) (hr.other hz))
 ·cases e;exact⟨h1,h2,h3,se,e2,n2,n3⟩
theorem St.turned {aaQ:Nat}{a:Addr}{y:PySem.Str}{d iX:V}{o':Obj} (x:St base n A X (some (aaQ,a)) sc j ec J h₀ h) (hs:Heap.ExtBut a h h') (ho:Rep (seen X h') d (.ref a)) (he:h'.get? a=some o') (kg:j.lookup y=some aaQ) (hj:J[aaQ]?=some (some iX)) :
  St base n A X none sc j ec (J.set aaQ (some d)) h₀ h':=by
 obtain⟨h1,h2,h3,o,h4,h5,_⟩:=x.own aaQ a rfl
 refine Exists.elim (x.at'.rel y aaQ iX kg hj) fun BK zz=>aC zz fun U4 KR=>?_
 refine Exists.elim KR.own.2.plain fun p zz=>b6 zz fun p1 p2 p3=>?_
 rw[h4] at p1;injection p1 with p1;subst p1
 refine Exists.elim x.ns fun m hm=>?_
 obtain⟨hb,oL,hL,si⟩:=x.mS
 have U5:ec.locals≠a:=fun q=>by rw[q,h4] at hL;injection hL with hL;subst hL;exact h5 si
 have mod:Mod a h h':=⟨hs,o,o',h4,he,p2,p3,fun q=>absurd q h5⟩
 refine⟨⟨fun z k d' e1 e2=>?_,mod.cx h3 x.at'.cx,x.at'.ge,x.at'.scope,mod.low x.at'.low,x.at'.new⟩,x.top,x.fr,⟨m,mod.ns U5 hm⟩,mod.kept x.kp h1,x.nL,(fun j' a' e=>by contradiction),x.lo,x.held,x.stays⟩
 have var:∀ {v},Var h ec z v->Var h' ec z v:=fun hv=>by
  rcases hv with ⟨q,m',Dj,hu⟩ | ⟨q,c,hc,hu⟩
  ·exact .inl ⟨q,m',mod.ns U5 Dj,hu⟩
  ·exact .inr ⟨q,c,hc,mod.cell hu⟩
 by_cases hz:k=aaQ
 ·subst hz
  refine Exists.elim (x.at'.rel z k iX e1 hj) fun v zz=>aC zz fun hv hr=>?_
  rw[List.getElem?_set_self',hj] at e2
  cases e2
  exact⟨.ref a,hr.own.1 ▸ var hv,ho⟩
 ·rw[List.getElem?_set_ne (Ne.symm hz)] at e2
  refine Exists.elim (x.at'.rel z k d' e1 e2) fun v zz=>aC zz fun hv hr=>?_
  refine⟨v,var hv,?_⟩
  exact (mod.rep (.inl (.inr rfl)) (hr.other hz)).drop
theorem HC {l:List Addr} (k:Kept base h₀ h) (hn:∀ b∈l,h₀.get? b=none):Kept base h₀ (hideAll h l):=fun b o e=>by
 have hb:b∉l:=fun q=>by rw[hn b q] at e;contradiction
 rcases k b o e with e' | ⟨x,c,d,sl,e'⟩
 ·exact .inl (hideAll_get l e' hb)
 ·exact .inr ⟨x,c,d,sl,hideAll_get l e' hb⟩
theorem HD (l:List Addr):Kept base (hideAll h l) h:=fun b o e=>.inl (of_hideAll l e)
noncomputable def hidden (ec:Env) (ow:Owner):List Addr:=ec.locals::match ow with | some (_,a)=>[a] | none=>[]
theorem St.hide (x:St base n A X ow sc j ec J h₀ h):St base n A X ow sc j ec J (hideAll h (hidden ec ow)) h/\Kept base h₀ (hideAll h (hidden ec ow)):=by
 have plain:∀ b∈hidden ec ow,base.get? b=none/\∃ o,h.get? b=some o/\∀ vs,o.data≠.fields vs:=fun b hb=>by
  rcases List.mem_cons.mp hb with q | q
  ·subst q
   obtain⟨hb,o,ho,ZY⟩:=x.mS
   exact⟨hb,o,ho,ZY.eI⟩
  ·cases ow with
   | none=>contradiction
   | some p=>
    obtain⟨aaQ,a⟩:=p
    rcases List.mem_cons.mp q with q | q
    ·subst q
     obtain⟨_,_,h3,o,h4,h5,h6⟩:=x.own aaQ _ rfl
     exact⟨h3,o,h4,h6⟩
    ·contradiction
 have held:cB A (hideAll h (hidden ec ow)):=by
  rcases x.at'.cx.held with y | ⟨a,k,y,c⟩
  ·exact .inl y
  ·refine .inr ⟨a,k,y,c.keeps fun O z o O cz e O O=>hideAll_get _ e fun q=>?_⟩
   obtain⟨_,o',e',f⟩:=plain z q
   refine eR cz.get fun O0 vs O zz=>p4 zz fun e3 O O d O=>?_
   rw[e'] at e3;injection e3 with e3;subst e3;exact f _ d
 refine⟨⟨x.at',x.top,x.fr,x.ns,HD _,hideAll_none _ (.head _),fun aaQ a e=>?_,fun b hb=>?_,held,fun b o e=>hideAll_get _ (x.at'.cx.stays b o e) fun q=>?_⟩,HC x.kp fun b hb=>?_⟩
 ·refine iZ (x.own aaQ a e) fun h1 h2 h3 h4=>?_
  subst e
  exact⟨hideAll_none _ (.tail _ (.head _)),h2,h3,h4⟩
 ·refine Exists.elim (x.at'.low b hb) fun o e=>?_
  refine⟨o,hideAll_get _ e fun q=>?_⟩
  rcases List.mem_cons.mp q with q | q
  ·exact x.lo.none (q ▸ x.nL) hb
  ·cases ow with
   | none=>contradiction
   | some p=>obtain⟨aaQ,a⟩:=p;rcases List.mem_cons.mp q with q | q;(· exact (x.own aaQ a rfl).2.1 (q ▸ hb));(· contradiction)
 ·have:=(plain b q).1;rw[e] at this;contradiction
 ·unfold hidden at hb
  rcases List.mem_cons.mp hb with q | q
  ·rw[q];exact x.nL
  ·cases ow with
   | none=>contradiction
   | some p=>obtain⟨aaQ,a⟩:=p;rcases List.mem_cons.mp q with q | q;(· rw[q];exact (x.own aaQ a rfl).1);(· contradiction)
theorem St.KS {aj:Heap} (x:St base n A X ow sc j ec J aj h) (k:Kept base h₀ aj) (lo:nu X h₀) (hh:cB A h₀) (st:base.StaysIn h₀):St base n A X ow sc j ec J h₀ h:=
 ⟨x.at',x.top,x.fr,x.ns,k.trans x.kp,k.missing x.nL,fun aaQ a e=>⟨k.missing (x.own aaQ a e).1,(x.own aaQ a e).2⟩,lo,hh,st⟩
theorem St.uE {aj:Heap} (x:St base n A X none sc j ec J aj h) (k:cW base aj h h'):St base n A X none sc j ec J aj h':=by
 have kp:=x.kp.after k
 refine⟨⟨fun z i d e1 e2=>?_,⟨?_,kp.stays x.stays,x.held.kept kp,x.at'.cx.depth,x.at'.cx.units⟩,x.at'.ge,x.at'.scope,x.lo.kept kp,x.at'.new⟩,x.top,x.fr,x.ns.imp fun O=>k.ns,kp,x.nL,(fun O O e=>by contradiction),x.lo,x.held,x.stays⟩
 ·obtain⟨v,hv,hr⟩:=x.at'.rel z i d e1 e2
  refine⟨v,?_,k.rep hr⟩
  rcases hv with ⟨q,m',Dj,hu⟩ | ⟨q,c,hc,hu⟩
  ·exact .inl ⟨q,m',k.ns Dj,hu⟩
  ·exact .inr ⟨q,c,hc,k.cell hu⟩
 ·obtain⟨l,e,f⟩:=x.at'.cx.stack
  exact⟨l,e,f.uE k⟩
end
section
variable (prog:Program) (w:World) (base:Heap) (cl:dC->Value) (D:Fn->List V->R V) (n:Nat)
structure KV (A:Around) (X:Addr->Prop) (sc:Scope) (j:List (PySem.Str × Nat)) (ec:Env) (h₀:Heap) (de:Option Nat) (s:Shared) (r:SR) (Q:Flow->Shared->Prop) (E:Value->Shared->Prop):Prop where
 next:∀ J ow h' tk,r=.next J->ow.map Prod.fst=de->St base n A X ow sc j ec J h₀ h'->Q .next { s with heap:=h',toks:=tk }
 ret:∀ d v J h' tk,r=.ret d->St base n A X none sc j ec J h₀ h'->Rep (seen X h') d v->Q (.ret v) { s with heap:=h',toks:=tk }
 exc:∀ x J e h' tk,r=.exc x J->St base n A X none sc j ec J h₀ h'->ExcAt false h₀ (cl x) e h'->E (.ref e) { s with heap:=h',toks:=tk }
def bL (own de:Option Nat) (sc:Scope) (j:List (PySem.Str × Nat)) (st:Stmt) (p:PS):Prop:=
 ∀ (A:Around) (X:Addr->Prop) (ec:Env) (J:Ρ) (h₀:Heap) (s:Shared) (ow:Owner),ow.map Prod.fst=own->St base n A X ow sc j ec J h₀ s.heap->∀ (Q:Flow->Shared->Prop) (E:Value->Shared->Prop),KV base cl n A X sc j ec h₀ de s (bT D p J) Q E->
  bT D p J≠.stuck->aL (model prog w) A (exec st ec) Q E s
def b0 (own de:Option Nat) (sc:Scope) (j:List (PySem.Str × Nat)) (st:List Stmt) (p:aB):Prop:=
 ∀ (A:Around) (X:Addr->Prop) (ec:Env) (J:Ρ) (h₀:Heap) (s:Shared) (ow:Owner),ow.map Prod.fst=own->St base n A X ow sc j ec J h₀ s.heap->∀ (Q:Flow->Shared->Prop) (E:Value->Shared->Prop),KV base cl n A X sc j ec h₀ de s (ak D p J) Q E->
  ak D p J≠.stuck->aL (model prog w) A (execs st ec) Q E s
def pP (sc:Scope) (j:List (PySem.Str × Nat)) (st:Stmt) (x:dC) (ps:fZ):Prop:=
 ∀ (A:Around) (X:Addr->Prop) (ec:Env) (J:Ρ) (s:Shared),At base n A X none sc j ec J s.heap->∀ (Q:Flow->Shared->Prop) (E:Value->Shared->Prop),Ex base cl s ((cT D ps J).bind fun O=>(.exc x:R Unit)) E->cT D ps J≠.stuck->
  aL (model prog w) A (exec st ec) Q E s
def Dt (hc:Hc) (hv:Value):Prop:=∀ (A:Around) (s:Shared) (x:dC) (e:Addr) (Q:Bool->Shared->Prop) (E:Value->Shared->Prop),base.StaysIn s.heap->(∃ oe vs,s.heap.get? e=some oe/\oe.cls=cl x/\oe.data=.fields vs)->Q (hc.lU x) s->
 wpAny (model prog w) A (excMatches (.ref e) hv) Q E s
def BL (de:Option Nat) (sc:Scope) (j:List (PySem.Str × Nat)) (hs:List ExceptHandler) (ps:Ip):Prop:=
 ∀ (A:Around) (X:Addr->Prop) (ec:Env) (J:Ρ) (h₀:Heap) (s:Shared) (x:dC) (e:Addr),St base n A X none sc j ec J h₀ s.heap->ExcAt true h₀ (cl x) e s.heap->
  ∀ (Q:Flow->Shared->Prop) (E:Value->Shared->Prop),KV base cl n A X sc j ec h₀ de s (Iq D ps x J) Q E->Iq D ps x J≠.stuck->aL (model prog w) A (handleBy (.ref e) ec hs) Q E s
end
section
variable {prog:Program}{w:World}{base:Heap}{cl:dC->Value}{A:Around}{X:Addr->Prop}{s:Shared}{D:Fn->List V->R V}{n:Nat}{sc:Scope}{j:List (PySem.Str × Nat)}{K:Frag}{ec:Env}{J:Ρ}{h₀:Heap}{ow:Owner}{own de:Option Nat}
 {Q:Flow->Shared->Prop}{E:Value->Shared->Prop}
theorem KV.ex {α:Type}{r:R α}{kk:α->SR} (p:KV base cl n A X sc j ec h₀ de s (r.on J kk) Q E) (st:St base n A X ow sc j ec J h₀ s.heap):Ex base cl s r E:=fun x e h' tk q k y=>
 p.exc x J e h' tk (by rw[q];rfl) (st.freeze.kept k) (y.elder st.kp)
theorem fW {α:Type}{r:R α}{kk:α->SR} (h:r.on J kk≠.stuck):r≠.stuck:=fun q=>h (by rw[q];rfl)
theorem kP {α:Type}{r:R α}{kk:α->SR}{a:α} (e:r=.ok a):r.on J kk=kk a:=by rw[e];rfl
theorem KV.move {r:SR}{h:Heap}{tk:Nat} (p:KV base cl n A X sc j ec h₀ de s r Q E):KV base cl n A X sc j ec h₀ de { s with heap:=h,toks:=tk } r Q E:=
 ⟨fun J ow h' mE e=>p.next J ow h' mE e,fun d v J h' mE e=>p.ret d v J h' mE e,fun x J e h' mE q=>p.exc x J e h' mE q⟩
theorem KV.step {α:Type}{r:R α}{kk:α->SR}{a:α}{h:Heap}{tk:Nat} (p:KV base cl n A X sc j ec h₀ de s (r.on J kk) Q E) (e:r=.ok a):KV base cl n A X sc j ec h₀ de { s with heap:=h,toks:=tk } (kk a) Q E:=by
 rw[kP e] at p;exact p.move
theorem fz {α:Type}{r:R α}{kk:α->SR}{a:α} (au:r.on J kk≠.stuck) (e:r=.ok a):kk a≠.stuck:=by rw[kP e] at au;exact au
theorem g9 (h:ow.map Prod.fst=none):ow=none:=by cases ow;rfl;contradiction
theorem hG {aaQ:Nat} (h:ow.map Prod.fst=some aaQ):∃ a,ow=some (aaQ,a):=by
 cases ow with
 | none=>contradiction
 | some p=>obtain⟨i,a⟩:=p;injection h with h;subst h;exact⟨a,rfl⟩
theorem b0.nil:b0 prog w base cl D n own own sc j [] .nil:=fun A X ec J h₀ s ow ho st Q E p au=>by
 rw[MF] at p
 exact (ag (wpAny_execs_nil (p.next J ow s.heap s.toks rfl ho st)))
theorem b0.cons {mid:Option Nat}{st:Stmt}{r:List Stmt}{a:PS}{as:aB} (h:bL prog w base cl D n own mid sc j st a) (h':b0 prog w base cl D n mid de sc j r as):b0 prog w base cl D n own de sc j (st::r) (.cons a as):=fun A X ec J h₀ s ow ho x Q E p au=>by
 rw[MG] at p au
 refine wh (h A X ec J h₀ s ow ho x _ _ ⟨fun ρ' jH aj tk e lB x'=>?_,fun d v ρ' aj tk e k rp=>?_,fun z ρ' e aj tk q x' y=>?_⟩ fun q=>au (by rw[q];rfl))
 ·rw[e] at p au
  exact h' A X ec ρ' h₀ { s with heap:=aj,toks:=tk } jH lB x' Q E p.move au
 ·exact p.ret d v ρ' aj tk (by rw[e];rfl) k rp
 ·exact p.exc z ρ' e aj tk (by rw[q];rfl) x' y
theorem bL.freeze {ss:Stmt}{ps:PS} (h:bL prog w base cl D n none de sc j ss ps):bL prog w base cl D n own de sc j ss ps:=fun A X ec J h₀ s ow ho x Q E p au=>h A X ec J h₀ s none rfl x.freeze Q E p au
theorem b0.O1 {ss:List Stmt}{ps:aB} (h:b0 prog w base cl D n own de sc j ss ps):b0 prog w base cl D n own none sc j ss ps:=fun A X ec J h₀ s ow ho x Q E p au=>
 h A X ec J h₀ s ow ho x Q E ⟨fun ρ' jH h' tk e O x'=>p.next ρ' none h' tk e rfl x'.freeze,p.ret,p.exc⟩ au
theorem ej {ec:Env} (g:Ge ec):(ec.scope.kind == .class||(ec.scope.kind == .module&&ec.locals != ec.globals))=false:=by rw[g.kind];rfl
theorem bL.assign {f1:Bool}{x:PySem.Str}{px pos:Pos}{e:Expr}{p:PE}{i:Nat} (he:aM prog w base cl D n f1 sc j e p) (hk:sc.names.lookup x=some .local) (kg:j.lookup x=some i) (hinj:∀ z,j.lookup z=some i->z=x)
  (HF:∀ env,swapsWith e (some (.Name x px)) pos.line env=pure false):bL prog w base cl D n none none sc j (.Assign [.Name x px] e pos) (.assign i p):=fun A X ec J h₀ s ow ho st Q E po au=>by
 obtain rfl:=g9 ho
 rw[zy] at po au
 refine gC (he A X ec J s st.at' _ _ ⟨fun d v aj tk e₁ k rp O=>?_,po.ex st⟩ (fW au)) (HF ec)
 have cv:=st.kept k
 refine Exists.elim cv.ns fun m hm=>?_
 refine wpAny_storeName_local (s:={ s with heap:=aj,toks:=tk }) (by unfold Env.kindOf;rw[st.at'.scope];exact hk) hm (fun aE hn hs=>?_) (ej st.at'.ge)
 refine po.next (J.set i (some d)) none aE _ (kP e₁) rfl (cv.store hm hn hs hk hinj kg (jH:=none) rp (fun z aaQ d' hz e1 e2=>cv.at'.rel z aaQ d' e1 e2) fun O O q=>by contradiction)
theorem bL.KW {f1:Bool}{x:PySem.Str}{px pos:Pos}{e:Expr}{p:PE}{i aaQ:Nat}{σ':List (PySem.Str × Nat)} (he:aM prog w base cl D n f1 sc σ' e p) (KY:∀ y i,σ'.lookup y=some i->j.lookup y=some i/\i≠aaQ) (U6:i≠aaQ)
  (hk:sc.names.lookup x=some .local) (kg:j.lookup x=some i) (hinj:∀ z,j.lookup z=some i->z=x)
  (HF:∀ env,swapsWith e (some (.Name x px)) pos.line env=pure false):bL prog w base cl D n (some aaQ) (some aaQ) sc j (.Assign [.Name x px] e pos) (.assign i p):=fun A X ec J h₀ s ow ho st Q E po au=>by
 refine Exists.elim (hG ho) fun a aw=>?_;subst aw
 rw[zy] at po au
 refine gC (he A (plus X a) ec J s (st.apart KY) _ _ ⟨fun d v aj tk e₁ k rp O=>?_,po.ex st⟩ (fW au)) (HF ec)
 have cv:=st.kept k
 refine Exists.elim cv.ns fun m hm=>?_
 refine wpAny_storeName_local (s:={ s with heap:=aj,toks:=tk }) (by unfold Env.kindOf;rw[st.at'.scope];exact hk) hm (fun aE hn hs=>?_) (ej st.at'.ge)
 refine po.next (J.set i (some d)) (some (aaQ,a)) aE _ (kP e₁) rfl (cv.store hm hn hs hk hinj kg (jH:=some (aaQ,a)) ?_ (fun z j' d' hz e1 e2=>cv.at'.rel z j' d' e1 e2) cv.own)
 exact .j3 U6 rp
theorem o9 {x:PySem.Str}{i:Nat}{d:V}{v:Value}{aj aE:Heap}{m:PySem.Str->Option Value} (st:St base n A X none sc j ec J h₀ s.heap) (k:Kept base s.heap aj) (hf:∃ a,v=.ref a/\s.heap.get? a=none/\bE aj X a d)
  (hm:aj.Ns ec.locals m) (hn:aE.Ns ec.locals fun z=>if z=x then some v else m z) (hs:Heap.SameBut ec.locals aj aE)
  (hk:sc.names.lookup x=some .local) (kg:j.lookup x=some i) (hinj:∀ z,j.lookup z=some i->z=x):∃ a,St base n A X (some (i,a)) sc j ec (J.set i (some d)) h₀ aE:=by
 refine Exists.elim hf fun a zz=>b6 zz fun aw na o=>?_;clear zz;try clear hf;subst aw
 have cv:=st.kept k
 refine⟨a,cv.store hm hn hs hk hinj kg (jH:=some (i,a)) ?_ (fun z j' d' hz e1 e2=>?_) fun aaQ b q=>?_⟩
 ·exact .Kn rfl o
 ·refine Exists.elim (st.at'.rel z j' d' e1 e2) fun u zz=>aC zz fun hu ru=>?_
  refine⟨u,hu.kept k,?_⟩
  exact .j3 hz (k.rep (Rep.fresh ru na))
 ·cases q
  refine⟨st.kp.missing na,st.at'.low.none na,?_,o.there⟩
  cases q:base.get? a with
  | none=>rfl
  | some o=>have:=st.at'.cx.stays a o q;rw[na] at this;contradiction
theorem bL.build {x:PySem.Str}{px pos:Pos}{e:Expr}{p:PE}{i:Nat} (he:aM prog w base cl D n true sc j e p) (hk:sc.names.lookup x=some .local) (kg:j.lookup x=some i) (hinj:∀ z,j.lookup z=some i->z=x)
  (HF:∀ env,swapsWith e (some (.Name x px)) pos.line env=pure false):bL prog w base cl D n own (some i) sc j (.Assign [.Name x px] e pos) (.own i p):=bL.freeze fun A X ec J h₀ s ow ho st Q E po au=>by
 obtain rfl:=g9 ho
 rw[QX] at po au
 refine gC (he A X ec J s st.at' _ _ ⟨fun d v aj tk e₁ k rp hf=>?_,po.ex st⟩ (fW au)) (HF ec)
 have cv:=st.kept k
 refine Exists.elim cv.ns fun m hm=>?_
 refine wpAny_storeName_local (s:={ s with heap:=aj,toks:=tk }) (by unfold Env.kindOf;rw[st.at'.scope];exact hk) hm (fun aE hn hs=>?_) (ej st.at'.ge)
 have aq:=fz au e₁
 have yv:∃ a,v=.ref a/\s.heap.get? a=none/\bE aj X a d:=by cases d<;>first | exact hf rfl | exact absurd rfl aq
 have ZZ:(ao D p J).on J (fun v=>match v with | .list _=>.next (J.set i (some v)) | .cj _=>.next (J.set i (some v)) | _=>.stuck)=.next (J.set i (some d)):=by
  rw[kP e₁];cases d<;>first | rfl | exact absurd rfl aq
 refine Exists.elim (o9 st k yv hm hn hs hk kg hinj) fun a fj=>?_
 exact po.next _ _ aE _ ZZ rfl fj
theorem bL.ite {t:Expr}{b o:List Stmt}{pos:Pos}{c:PE}{pb pe:aB} (hc:gE prog w base cl D n sc j t c) (hb:b0 prog w base cl D n own de sc j b pb) (he:b0 prog w base cl D n own de sc j o pe) :
  bL prog w base cl D n own de sc j (.If t b o pos) (.ite c pb pe):=fun A X ec J h₀ s ow ho st Q E p au=>by
 have e0:bT D (.ite c pb pe) J=((ao D c J).bind V.truth).on J fun t=>if t then ak D pb J else ak D pe J:=by
  rw[QZ];cases ao D c J<;>rfl
 rw[e0] at p au
 refine W0 (hc A X ec J s st.freeze.at' _ _ ⟨fun t h' tk e k=>?_,p.ex st⟩ (fW au))
 have bS:=p.step (h:=h') (tk:=tk) e
 have aq:=fz au e
 cases t with
 | true=>exact hb A X ec J h₀ _ ow ho (st.kept k) Q E bS aq
 | false=>exact he A X ec J h₀ _ ow ho (st.kept k) Q E bS aq
theorem bL.ret {f1:Bool}{e:Expr}{pos:Pos}{p:PE} (he:aM prog w base cl D n f1 sc j e p):bL prog w base cl D n own de sc j (.Return (some e) pos) (.ret p):=fun A X ec J h₀ s ow ho st Q E po au=>by
 rw[Mz] at po au
 refine Kq (he A X ec J s st.freeze.at' _ _ ⟨fun d v aj tk e₁ k rp O=>?_,po.ex st⟩ (fW au))
 exact po.ret d v J aj tk (kP e₁) (st.freeze.kept k) rp
theorem bL.raise {st:Stmt}{x:dC}{ps:fZ} (h:pP prog w base cl D n sc j st x ps):bL prog w base cl D n own de sc j st (.raise x ps):=fun A X ec J h₀ s ow ho t Q E po au=>by
 rw[MA] at po au
 refine h A X ec J s t.freeze.at' Q E (fun z e h' tk q k y=>?_) (fW au)
 cases q2:cT D ps J with
 | ok vs=>rw[q2] at q;injection q with q;subst q;exact po.exc x J e h' tk (kP q2) (t.freeze.kept k) (y.elder t.kp)
 | exc z'=>rw[q2] at q;cases q;exact po.exc z J e h' tk (by rw[q2];rfl) (t.freeze.kept k) (y.elder t.kp)
 | stuck=>rw[q2] at q;contradiction
theorem bL.expr {f1:Bool}{e:Expr}{pos:Pos}{p:PE} (he:aM prog w base cl D n f1 sc j e p) (hs:∀ env,swapsWith e none pos.line env=pure false):bL prog w base cl D n own own sc j (.Expr e pos) (.expr p):=fun A X ec J h₀ s ow ho st Q E po au=>by
 rw[MD] at po au
 refine Bv (he A X ec J s st.freeze.at' _ _ ⟨fun d v aj tk e₁ k rp O=>?_,po.ex st⟩ (fW au)) (by unfold interactive;rw[st.at'.ge.kind];rfl) (hs ec)
 exact po.next J ow aj tk (kP e₁) ho (st.kept k)
theorem yN (T:Addr):¬ ((Value.ref T == Value.none)=true):=by simp
theorem gp {B:Around}{tr:Bool}{c:Value}{e:Addr} (st:St base n A X none sc j ec J h₀ s.heap) (hB:B.frames=A.frames) (hx:ExcAt tr h₀ c e s.heap) (hQ:∀ h',St base n A X none sc j ec J h₀ h'->ExcAt true h₀ c e h'->E (.ref e) { s with heap:=h' }) :
  notedBy (model prog w) B ec (cameBackBy (model prog w) A ec E) (.ref e) s:=by
 obtain⟨outer,yv,hF⟩:=st.frames
 unfold notedBy
 refine iF (base:=base) (h₀:=h₀) (hB.trans yv) hF st.fr hx st.kp fun h' kn TJ=>?_
 unfold cameBackBy
 obtain⟨n1,ch,oe,vs,he,hc,hd,ht⟩:=id TJ
 rcases ht with ⟨q,_⟩ | ⟨T,oT,ts,f,h1,Tc,hT,Ql,Ov,h3⟩
 ·contradiction
 ·refine wpAny_bind (wpAny_field (s:={ s with heap:=h' }) he hd h1 ?_)
  rw[if_neg (yN T)]
  exact fx (base:=base) (s:={ s with heap:=h' }) TJ fun Mk Ti Xd=>hQ Mk (st.uE (kn.trans Ti)) Xd
theorem yO {c:Ρ->R Bool}{b:Ρ->SR}{k:Nat}{J:Ρ}:dp c b (k+1) J=(c J).on J fun t=>if t then (b J).then (dp c b k) else .next J:=rfl
theorem bL.while {t:Expr}{b:List Stmt}{pos:Pos}{c:PE}{pb:aB} (hc:gE prog w base cl D n sc j t c) (hb:b0 prog w base cl D n own own sc j b pb):bL prog w base cl D n own own sc j (.While t b [] pos) (.while c pb):=fun A X ec J h₀ s ow ho st Q E p au=>by
 rw[Q0] at p au
 refine OI (yz (fun N s'=>∃ (ρ':Ρ) (jH:Owner) (h':Heap) (tk:Nat),s'={ s with heap:=h',toks:=tk }/\jH.map Prod.fst=own/\St base n A X jH sc j ec ρ' h₀ h'/\
  dp (fun J=>(ao D c J).bind V.truth) (ak D pb) N ρ'=dp (fun J=>(ao D c J).bind V.truth) (ak D pb) turns J) ?_ turns ⟨J,ow,s.heap,s.toks,rfl,ho,st,rfl⟩)
 rintro N _ ⟨ρ',jH,h',tk,rfl,lB,mV,er⟩
 rw[<- er] at p au
 cases N with
 | zero=>exact absurd rfl au
 | succ N=>
  rw[yO] at p au er
  refine hc A X ec ρ' { s with heap:=h',toks:=tk } mV.freeze.at' _ _ ⟨fun k aE bF bM k₂=>?_,fun x e aE bF q k₂ y=>?_⟩ (fW au)
  ·have dj:=p.step (h:=aE) (tk:=bF) bM
   have cI:=fz au bM
   have fj:=mV.kept k₂
   cases k with
   | false=>exact dj.next ρ' jH aE bF rfl lB fj
   | true=>
    rw[if_pos rfl] at dj cI ⊢
    refine hb A X ec ρ' h₀ { s with heap:=aE,toks:=bF } jH lB fj _ _ ⟨fun yP U7 bG jE r5 U8 sj=>?_,fun d v yP bG jE r5 sj rp=>?_,fun x yP e bG jE r5 sj y=>?_⟩ fun q=>cI (by rw[q];rfl)
    ·refine⟨N,Nat.lt_succ_self _,yP,U7,bG,jE,rfl,U8,sj,?_⟩
     rw[<- er,kP bM,if_pos rfl,r5];rfl
    ·exact dj.ret d v yP bG jE (by rw[r5];rfl) sj rp
    ·exact gp (s:={ s with heap:=bG,toks:=jE }) sj rfl y fun cV cF BM=>dj.exc x yP e cV jE (by rw[r5];rfl) cF BM.weak
  ·exact gp (s:={ s with heap:=aE,toks:=bF }) (mV.freeze.kept k₂) rfl (y.elder mV.kp) fun cV cF BM=>p.exc x ρ' e cV bF (by rw[q];rfl) cF BM.weak
noncomputable def Wg (X:Addr->Prop):Owner->Addr->Prop
 | some (_,a)=>plus X a
 | none=>X
theorem St.touch {it:Addr}{h h':Heap} (x:St base n A X ow sc j ec J h₀ h) (t:iT it h h') (nI:h₀.get? it=none):St base n A X ow sc j ec J h₀ h':=by
 have kp:=t.kept x.kp nI
 refine bW t.here fun oI vsI zz=>aC zz fun hI dI=>?_
 have ne:∀ {b o},h.get? b=some o->(∀ vs,o.data≠.fields vs)->h'.get? b=some o:=fun {b o} e f=>t.other b o (fun q=>by subst q;rw[hI] at e;injection e with e;subst e;exact f _ dI) e
 have frames:∀ {l:List Env},Frames base h l->Frames base h' l:=by
  intro l
  induction l with
  | nil=>exact fun O=>trivial
  | cons env r ih=>exact fun ⟨hk,⟨L,o,hf,hn,ho,hc,hd⟩,hr⟩=>⟨hk,⟨L,o,hf,hn,ne ho hd,hc,hd⟩,ih hr⟩
 have ns:∀ {b f},h.Ns b f->h'.Ns b f:=fun ⟨o,es,ep,h1,h2,r⟩=>⟨o,es,ep,ne h1 (by intro vs q;rw[h2] at q;contradiction),h2,r⟩
 refine⟨⟨fun z i d e1 e2=>?_,⟨?_,kp.stays x.stays,x.held.kept kp,x.at'.cx.depth,x.at'.cx.units⟩,x.at'.ge,x.at'.scope,x.lo.kept kp,x.at'.new⟩,x.top,x.fr,x.ns.imp fun O=>ns,kp,x.nL,fun aaQ a e=>?_,x.lo,x.held,x.stays⟩
 ·refine Exists.elim (x.at'.rel z i d e1 e2) fun v zz=>aC zz fun hv hr=>?_
  refine⟨v,?_,?_⟩
  ·rcases hv with ⟨q,m',Dj,hu⟩ | ⟨q,c,hc,o,h1,h2⟩
   ·exact .inl ⟨q,m',ns Dj,hu⟩
   ·exact .inr ⟨q,c,hc,o,ne h1 (by intro vs q;rw[h2] at q;contradiction),h2⟩
  ·exact hr.imp (fun r=>r.imp (fun o e O nf=>ne e nf) t.kb) t.rep
 ·refine Exists.elim x.at'.cx.stack fun l zz=>aC zz fun e f=>?_
  exact⟨l,e,frames f⟩
 ·obtain⟨h1,h2,h3,o,h4,h5,h6⟩:=x.own aaQ a e
  exact⟨h1,h2,h3,o,ne h4 h6,h5,h6⟩
theorem oh {Y:Addr->Prop}{h h':Heap}{it:Addr}{ds:List V} (x:St base n A X ow sc j ec J h₀ h) (i:bh h Y it ds) (hY:∀ aaQ a,ow=some (aaQ,a)->Y a) (k:Kept base (hideAll h (hidden ec ow)) h'):bh h' Y it ds:=i.kept fun b o e q=>by
 have hb:b∉hidden ec ow:=fun m=>by
  rcases List.mem_cons.mp m with z | z
  ·subst z
   obtain⟨_,o',e',bk⟩:=x.mS
   rw[e'] at e;injection e with e;subst e
   rcases q with ⟨_,q⟩ | ⟨q,_⟩
   ·exact bk.eI _ q
   ·exact b8 q bk
  ·cases ow with
   | none=>contradiction
   | some p=>
    obtain⟨aaQ,a⟩:=p
    rcases List.mem_cons.mp z with z | z
    ·subst z
     obtain⟨_,_,_,o',e',_,f⟩:=x.own aaQ _ rfl
     rw[e'] at e;injection e with e;subst e
     rcases q with ⟨_,q⟩ | ⟨_,q⟩
     ·exact f _ q
     ·exact q (hY aaQ _ rfl)
    ·contradiction
 refine k.get (hideAll_get _ e hb) ?_
 rcases q with ⟨_,q⟩ | ⟨q,_⟩
 ·exact gU q
 ·exact b8 q
theorem bL.for {x:PySem.Str}{px pos:Pos}{iter:Expr}{b:List Stmt}{p:uV}{pb:aB}{i:Nat}{σ':List (PySem.Str × Nat)} (hit:jG prog w base cl D n sc σ' iter p) (KY:∀ y k,σ'.lookup y=some k->j.lookup y=some k/\∀ aaQ,own=some aaQ->k≠aaQ) (U6:∀ aaQ,own=some aaQ->i≠aaQ)
  (hk:sc.names.lookup x=some .local) (kg:j.lookup x=some i) (hinj:∀ z,j.lookup z=some i->z=x) (hb:b0 prog w base cl D n own own sc j b pb)
  (hs:∀ env x,foldedSetIterable iter env x=pure x):bL prog w base cl D n own own sc j (.For (.Name x px) iter b [] pos) (.for i p pb):=fun A X ec J h₀ s ow ho st Q E po au=>by
 rw[Q1] at po au
 have U9:At base n A (Wg X ow) none sc σ' ec J s.heap:=by
  cases ow with
  | none=>
   refine⟨fun z k d e1 e2=>st.at'.rel z k d (KY z k e1).1 e2,st.at'.cx,st.at'.ge,st.at'.scope,st.at'.low,st.at'.new⟩
  | some q=>obtain⟨aaQ,a⟩:=q;exact st.apart fun y k e=>⟨(KY y k e).1,(KY y k e).2 aaQ (by rw[<- ho];rfl)⟩
 refine Uu (hit A (Wg X ow) ec J s U9 _ _ (fun ds aj o tk e₁ k₁ Va=>?_) (po.ex st) (fW au)) (hs ec)
 have aq:=fz au e₁
 have cL:=po.step (h:=aj) (tk:=tk) e₁
 have hlen:ds.length<=lim:=by
  by_cases q:ds.length<=lim
  ·exact q
  ·rw[if_neg q] at aq;exact absurd rfl aq
 rw[if_pos hlen] at cL aq
 have kI:Kept base s.heap (aj.push o):=k₁.trans (Kept.push _ _ _)
 have nI:h₀.get? aj.objs.size=none:=st.kp.missing (k₁.missing (bV _))
 generalize hI:aj.objs.size=I at Va nI ⊢
 refine Hs (fun N s'=>∃ (Du:List V) (ρ':Ρ) (jH:Owner) (h':Heap) (mE:Nat),s'={ s with heap:=h',toks:=mE }/\N=Du.length/\jH.map Prod.fst=own/\St base n A X jH sc j ec ρ' h₀ h'/\bh h' (Wg X jH) I Du/\
  dh i (ak D pb) Du ρ'=dh i (ak D pb) ds J) ?_ ds.length ⟨ds,J,ow,_,tk,rfl,rfl,ho,st.kept kI,Va,rfl⟩
 rintro N _ ⟨Du,ρ',jH,h',mE,rfl,rfl,lB,mV,R3,er⟩
 rw[<- er] at cL aq
 cases Du with
 | nil=>
  refine yH (s:={ s with heap:=h',toks:=mE }) mV.at'.cx.held R3 fun aE O2=>?_
  exact cL.next ρ' jH aE mE rfl lB (mV.touch O2 nI)
 | cons d Du=>
  rw[My] at cL aq er
  refine uL (s:={ s with heap:=h',toks:=mE }) R3 fun aE bF v O2 it₂ rv=>?_
  have fj:=mV.touch O2 nI
  obtain⟨m,hm⟩:=fj.ns
  refine wpAny_assign_Name (wpAny_storeName_local (s:={ s with heap:=aE,toks:=bF }) (by unfold Env.kindOf;rw[st.at'.scope];exact hk) hm (fun bG hn Th=>?_) (ej st.at'.ge))
  have sj:St base n A X jH sc j ec (ρ'.set i (some d)) h₀ bG:=fj.store hm hn Th hk hinj kg (jH:=jH) (by
   cases jH with
   | none=>exact rv
   | some q=>exact .j3 (U6 q.1 (by rw[<- lB];rfl)) rv) (fun z aaQ d' hz e1 e2=>fj.at'.rel z aaQ d' e1 e2) fj.own
  have KZ:bh bG (Wg X jH) I Du:=it₂.kept fun z oz e q=>Th.extBut z oz (fun y=>by
   subst y
   obtain⟨_,o',e',bk⟩:=fj.mS
   rw[e'] at e;injection e with e;subst e
   rcases q with ⟨_,q⟩ | ⟨q,_⟩
   ·exact bk.eI _ q
   ·exact b8 q bk) e
  obtain⟨sk,kh⟩:=sj.hide
  refine hb A X ec (ρ'.set i (some d)) _ { s with heap:=bG,toks:=bF+1 } jH lB sk _ _ ⟨fun eW yQ cV dO lK mW cF=>?_,fun K0 K1 eW cV dO lK cF rp=>?_,fun z eW e cV dO lK cF y=>?_⟩ fun q=>aq (by rw[q];rfl)
  ·refine⟨Du.length,by simp,Du,eW,yQ,cV,dO,rfl,rfl,mW,cF.KS kh st.lo st.held st.stays,?_,by rw[<- er,lK];rfl⟩
   cases mU:own with
   | none=>
    rw[mU] at lB mW
    obtain rfl:=g9 lB
    obtain rfl:=g9 mW
    exact oh sk KZ (fun aaQ a q=>by contradiction) cF.kp
   | some aaQ=>
    rw[mU] at lB mW
    obtain⟨a,rfl⟩:=hG lB
    obtain⟨a',rfl⟩:=hG mW
    obtain⟨n4,_,_,o4,g4,b4,_⟩:=cF.own aaQ a' rfl
    have Vb:a'=a∨bG.get? a'=none:=by
     by_cases q:a'∈hidden ec (some (aaQ,a))
     ·rcases List.mem_cons.mp q with q | q
      ·subst q
       obtain⟨_,o',e',bk⟩:=cF.mS
       rw[g4] at e';injection e' with e';subst e';exact absurd bk b4
      ·rcases List.mem_cons.mp q with q | q
       ·exact .inl q
       ·contradiction
     ·right
      cases z:bG.get? a' with
      | none=>rfl
      | some o=>rw[hideAll_get _ z q] at n4;contradiction
    rcases Vb with rfl | Wh
    ·exact oh sk KZ (fun aaQ a q=>by cases q;exact .inr rfl) cF.kp
    ·have R3:bh bG (fun b=>plus X a b∨b=a') I Du:=KZ.more fun b (y:plus X a b∨b=a')=>y.imp id fun (q:b=a')=>q ▸ Wh
     exact (oh sk R3 (fun aaQ a q=>by cases q;exact .inl (.inr rfl)) cF.kp).less fun b y=>y.elim (fun y=>.inl (.inl y)) .inr
  ·exact cL.ret K0 K1 eW cV dO (by rw[lK];rfl) (cF.KS kh st.lo st.held st.stays) rp
  ·exact gp (s:={ s with heap:=cV,toks:=dO }) (cF.KS kh st.lo st.held st.stays) rfl (y.elder kh) fun wi K2 K3=>cL.exc z eW e wi dO (by rw[lK];rfl) K2 K3.weak
theorem O3:BL prog w base cl D n de sc j [] .nil:=fun A X ec J h₀ s x e st y Q E p au=>by
 rw[Q2] at au;exact absurd rfl au
theorem BL.cons {t:Expr}{hv:Value}{Hr:Stmt}{suite:List Stmt}{pos:Pos}{rest:List ExceptHandler}{hc:Hc}{pb:aB}{ps:Ip} (Rn:Dt prog w base cl hc hv)
  (ht:∀ (A:Around) (X:Addr->Prop) (ec:Env) (J:Ρ) (s:Shared) (Q E:Value->Shared->Prop),At base n A X none sc j ec J s.heap->Q hv s->wpAny (model prog w) A (eval t ec) Q E s)
  (hb:b0 prog w base cl D n none de sc j (Hr::suite) pb) (hr:BL prog w base cl D n de sc j rest ps) :
  BL prog w base cl D n de sc j (.ExceptHandler (some t) none (Hr::suite) pos::rest) (.cons hc pb ps):=fun A X ec J h₀ s x e st y Q E p au=>by
 rw[Q3] at p au
 have RQ:(Value.ref e)≠byPass:=by intro q;contradiction
 obtain⟨n1,⟨kc,ch⟩,oe,vs,he,HG,hd,Ou⟩:=id y
 have at':At base n (A.mark (some (.ref e))) X none sc j ec J s.heap:=⟨st.at'.rel,⟨st.at'.cx.stack,st.at'.cx.stays,.inr ⟨e,kc,rfl,ch⟩,st.at'.cx.depth,st.at'.cx.units⟩,st.at'.ge,st.at'.scope,st.at'.low,st.at'.new⟩
 refine Bu (cg (codeAny_handlers_test (ht _ X ec J s _ _ at' (Rn _ s x e _ _ st.at'.cx.stays ⟨oe,vs,he,HG,hd⟩ ?_)))) RQ
 cases hq:hc.lU x with
 | false=>
  rw[hq] at p au
  exact hr A X ec J h₀ s x e st y Q E p au
 | true=>
  rw[hq,if_pos rfl] at p au
  refine OJ ?_
  refine fx (base:=base) y fun aj kn O4=>?_
  have cv:=st.uE kn
  refine b6 (id O4) fun O mw O=>?_;obtain⟨Vc,Vd⟩:=mw
  refine aC cv.hide fun sk kh=>?_
  have QB:cB (A.mark (some (.ref e))) (hideAll aj (hidden ec none)):=.inr ⟨e,Vc,rfl,Vd.keeps fun O z o O cz e O O=>hideAll_get _ e fun q=>by
   rcases List.mem_cons.mp q with q | q
   ·subst q
    obtain⟨_,o',e',bk⟩:=cv.mS
    refine eR cz.get fun O0 vs O zz=>p4 zz fun e3 O O d O=>?_
    rw[e'] at e3;injection e3 with e3;subst e3;exact bk.eI _ d
   ·contradiction⟩
  have fj:St base n (A.mark (some (.ref e))) X none sc j ec J (hideAll aj (hidden ec none)) aj:=⟨⟨sk.at'.rel,⟨sk.at'.cx.stack,sk.at'.cx.stays,QB.kept sk.kp,sk.at'.cx.depth,sk.at'.cx.units⟩,sk.at'.ge,sk.at'.scope,sk.at'.low,sk.at'.new⟩,sk.top,sk.fr,sk.ns,sk.kp,sk.nL,sk.own,sk.lo,QB,sk.stays⟩
  have back:∀ {jH ρ' h'},St base n (A.mark (some (.ref e))) X jH sc j ec ρ' (hideAll aj (hidden ec none)) h'->St base n A X jH sc j ec ρ' h₀ h':=fun z=>by
   have kp:=kh.trans z.kp
   exact⟨⟨z.at'.rel,⟨z.at'.cx.stack,z.at'.cx.stays,st.held.kept kp,z.at'.cx.depth,z.at'.cx.units⟩,z.at'.ge,z.at'.scope,z.at'.low,z.at'.new⟩,z.top,z.fr,z.ns,kp,st.nL,fun aaQ a q=>⟨kh.missing (z.own aaQ a q).1,(z.own aaQ a q).2⟩,st.lo,st.held,st.stays⟩
  refine hb (A.mark (some (.ref e))) X ec J _ { s with heap:=aj } none rfl fj _ _ ⟨fun eW yQ cV dO lK mW cF=>?_,fun K0 K1 eW cV dO lK cF rp=>?_,fun z eW lK cV dO Sh cF BM=>?_⟩ au
  ·exact p.next eW yQ cV dO lK mW (back cF)
  ·exact p.ret K0 K1 eW cV dO lK (back cF) rp
  ·exact gp (A:=A) (s:={ s with heap:=cV,toks:=dO }) (back cF) rfl (BM.elder kh) fun wi K2 K3=>p.exc z eW lK wi dO Sh K2 K3.weak
theorem bL.try {b:List Stmt}{c₀:ExceptHandler}{cs:List ExceptHandler}{pos:Pos}{pb:aB}{ps:Ip} (hb:b0 prog w base cl D n none de sc j b pb) (hh:BL prog w base cl D n de sc j (c₀::cs) ps) :
  bL prog w base cl D n none de sc j (.Try b (c₀::cs) [] [] pos) (.try pb ps):=fun A X ec J h₀ s ow ho st Q E p au=>by
 obtain rfl:=g9 ho
 rw[MC] at p au
 refine Uv (hb A X ec J h₀ s none rfl st _ _ ⟨fun eW yQ cV dO lK mW cF=>?_,fun K0 K1 eW cV dO lK cF rp=>?_,fun z eW e cV dO Sh cF BM=>?_⟩ fun q=>au (by rw[q]))
 ·exact (ag (wpAny_execs_nil (p.next eW yQ cV dO (by rw[lK]) mW cF)))
 ·exact p.ret K0 K1 eW cV dO (by rw[lK]) cF rp
 ·rw[Sh] at p au
  refine Exists.elim cF.frames fun outer zz=>aC zz fun yv hF=>?_
  refine iF (base:=base) (h₀:=h₀) (s:={ s with heap:=cV,toks:=dO }) yv hF cF.fr BM cF.kp fun wi kn K3=>?_
  refine fx (base:=base) (s:={ s with heap:=wi,toks:=dO }) K3 fun Xe Ti Xf=>?_
  exact hh A X ec eW h₀ { s with heap:=Xe,toks:=dO } z e (cF.uE (kn.trans Ti)) Xf Q E p.move au
end
section
variable {prog:Program}{w:World}{base:Heap}{cl:dC->Value}{A:Around}{X:Addr->Prop}{s:Shared}{D:Fn->List V->R V}{n:Nat}{sc:Scope}{j:List (PySem.Str × Nat)}{K:Frag}{ec:Env}{J:Ρ}{h₀:Heap}{ow:Owner}{own de:Option Nat}
theorem yR {d:V} (hf:d.gw=true) {g g':Addr->Obj->Prop}{v:Value} (r:Rep g d v):Rep g' d v:=by
 cases d<;>first | (contradiction;done) | (skip;exact r)
theorem lL {x:PySem.Str}{pos:Pos}{i:Nat}{d:V}{h:Heap}{Q E:Value->Shared->Prop} (st:St base n A X ow sc j ec J h₀ s.heap) (kg:j.lookup x=some i) (hi:J[i]?=some (some d)) (hd:(x == ("__debug__":PySem.Str))=false) (hc:(x == ("__classdict__":PySem.Str))=false)
  (hQ:∀ v,gV s.heap X ow i d v->Q v s):wpAny (model prog w) A (eval (.Name x pos) ec) Q E s:=by
 refine Exists.elim (st.at'.rel x i d kg hi) fun v zz=>aC zz fun hv hr=>?_
 exact yJ (h:=s.heap) st.at'.ge hv (hQ v hr) hd hc
set_option tactic.hygienic true in
theorem bL.aug {f1:Bool}{x:PySem.Str}{px pos:Pos}{e:Expr}{p:PE}{i:Nat} (he:aM prog w base cl D n f1 sc j e p) (hk:sc.names.lookup x=some .local) (kg:j.lookup x=some i) (hinj:∀ z,j.lookup z=some i->z=x) (U6:∀ aaQ,own=some aaQ->i≠aaQ)
  : bL prog w base cl D n own own sc j (.AugAssign (.Name x px) .Add e pos) (.aug i p):=fun A X ec J h₀ s ow ho st Q E po au=>by
 rw[QY] at po au
 cases q:J[i]? with
 | none=>rw[q] at au;exact absurd rfl au
 | some o=>
  cases o with
  | none=>rw[q] at au;exact absurd rfl au
  | some d=>
   cases d<;>rw[q] at po au<;>try exact absurd rfl au
   rename_i a
   dsimp only at po au
   refine Exists.elim (st.freeze.at'.rel x i _ kg q) fun v zz=>aC zz fun hv hr=>?_
   have V0:Var s.heap ec x v:=hv
   refine Exists.elim (gm (g:=seen X s.heap) hr) fun t aw=>?_;subst aw
   have ef:ec.kindOf x=some .local:=by unfold Env.kindOf;rw[st.at'.scope];exact hk
   rcases V0 with ⟨_,Z0,Ve,hx⟩ | ⟨q',_⟩
   ·refine n8 (wpAny_loadName_local st.at'.ge.kind ef Ve hx (he A X ec J s st.freeze.at' _ _ ⟨fun d v aj tk e₁ k rp O=>?_,po.ex st⟩ (fW au)))
    have aq:=fz au e₁
    have cL:=po.step (h:=aj) (tk:=tk) e₁
    cases d<;>try exact absurd rfl aq
    rename_i b
    dsimp only at cL aq
    refine aQ rp fun u=>?_
    refine P.iadd_int (s:={ s with heap:=aj,toks:=tk }) ?_
    have cv:=st.kept k
    refine Exists.elim cv.ns fun m hm=>?_
    refine wpAny_storeName_local (s:={ s with heap:=aj,toks:=tk+1 }) ef hm (fun aE hn hs=>?_) (ej st.at'.ge)
    refine cL.next _ ow aE _ rfl ho (cv.store hm hn hs hk hinj kg (jH:=ow) ?_ (fun z aaQ d' hz e1 e2=>cv.at'.rel z aaQ d' e1 e2) cv.own)
    cases ow with
    | none=>exact (show Rep (seen X aE) _ _ from bD _ _)
    | some q=>exact .j3 (U6 q.1 (by rw[<- ho];rfl)) (bD _ _)
   ·rw[ef] at q';rcases q' with q' | q'<;>contradiction
set_option tactic.hygienic true in
theorem bL.setItem {f1 f2:Bool}{x:PySem.Str}{px pp pos:Pos}{e ie:Expr}{p ip:PE}{i:Nat} (he:aM prog w base cl D n f1 sc j e p) (hi:aM prog w base cl D n f2 sc j ie ip) (kg:j.lookup x=some i)
  (hd:(x == ("__debug__":PySem.Str))=false) (hc:(x == ("__classdict__":PySem.Str))=false)
  (HF:∀ env,swapsWith e (some (.Subscript (.Name x px) ie pp)) pos.line env=pure false):bL prog w base cl D n (some i) none sc j (.Assign [.Subscript (.Name x px) ie pp] e pos) (.setItem i ip p):=fun A X ec J h₀ s ow ho st Q E po au=>by
 refine Exists.elim (hG ho) fun a aw=>?_;subst aw
 refine lF (he A X ec J s st.freeze.at' _ _ ⟨fun d v aj tk e₁ k rp O=>?_,po.ex st⟩ (fW au)) (HF ec)
 have aq:=fz au e₁
 have cL:=po.step (h:=aj) (tk:=tk) e₁
 have cv:=st.kept k
 cases q:J[i]? with
 | none=>rw[q] at aq;exact absurd rfl aq
 | some o=>
  cases o with
  | none=>rw[q] at aq;exact absurd rfl aq
  | some dl=>
   cases dl<;>rw[q] at cL aq<;>try exact absurd rfl aq
   rename_i xs
   refine (ag (lL (h:=aj) (s:={ s with heap:=aj,toks:=tk }) cv kg q hd hc fun vl Dv=>?_))
   refine aC Dv.own fun aw mU=>?_;try clear Dv;subst aw
   refine hi A X ec J { s with heap:=aj,toks:=tk } cv.freeze.at' _ _ ⟨fun kd kv aE bF bM k₂ rk yv=>?_,cL.ex cv⟩ (fW aq)
   clear yv
   revert rk
   intro rk
   have cI:=fz aq bM
   have yS:=cL.step (h:=aE) (tk:=bF) bM
   obtain⟨kk,rfl⟩:∃ kk,kd=.int kk:=by cases kd<;>first | exact⟨_,rfl⟩ | exact absurd rfl cI
   refine aQ rk fun u=>?_
   dsimp only at cI yS
   by_cases s9:0<=kk/\kk<xs.length/\d.gw=true
   ·rw[if_pos s9] at yS
    have fj:=cv.kept k₂
    have O5:=mU.kept k₂
    refine eR O5 fun o vs nn zz=>DP zz fun g c dn Xg hl rl=>?_
    have ka:vs.size=xs.length:=by have:=rl.length;simpa using this
    refine wpAny_setItem_list (s:={ s with heap:=aE,toks:=bF }) ⟨o,g,c,nn,Xg⟩ s9.1 (by omega) (by omega) fun bG Vf Dw=>?_
    obtain⟨O0,Vg,c₃,Xh,OQ⟩:=id Vf
    have hX:¬ X a:=(st.own i a rfl).2.1
    refine yS.next _ none bG bF rfl rfl (fj.turned (y:=x) Dw.extBut ?_ Vg kg q)
    rw[Bl]
    refine⟨a,O0,_,Xh,rfl,⟨Vg,hX⟩,c₃,OQ,by simpa using hl,?_⟩
    rw[Array.toList_setIfInBounds]
    have Z1:az (seen X bG) xs vs.toList:=(rl.extBut (X:=plus X a) Dw.extBut (.inr rfl)).drop'
    exact Z1.set _ (yR s9.2.2 rp)
   ·rw[if_neg s9] at cI;exact absurd rfl cI
theorem plainAttrs_list:PlainAttrs "list":=⟨⟨_,list_getattribute,by rw[canon_list_getattribute]⟩,list_getattr_none⟩
set_option tactic.hygienic true in
theorem bL.append {f1:Bool}{x:PySem.Str}{px ap cp pos:Pos}{e:Expr}{p:PE}{i:Nat} (he:aM prog w base cl D n f1 sc j e p) (kg:j.lookup x=some i)
  (gh:notStar e=true)
  (hline:(ap.endLine == cp.line)=true)
  (hd:(x == ("__debug__":PySem.Str))=false) (hc:(x == ("__classdict__":PySem.Str))=false)
  (HF:∀ env,swapsWith (.Call (.Attribute (.Name x px) "append" ap) [e] [] cp) none pos.line env=pure false):bL prog w base cl D n (some i) (some i) sc j (.Expr (.Call (.Attribute (.Name x px) "append" ap) [e] [] cp) pos) (.append i p):=fun A X ec J h₀ s ow ho st Q E po au=>by
 refine Exists.elim (hG ho) fun a aw=>?_;subst aw
 cases q:J[i]? with
 | none=>rw[uW,q] at au;exact absurd rfl au
 | some o=>
  cases o with
  | none=>rw[uW,q] at au;exact absurd rfl au
  | some dl=>
   cases dl<;>first | (rw[uW,q] at au;exact absurd rfl au) | skip
   ·rename_i xs
    rw[uW,q] at po au
    have Ou:∀ env,starEach [e] env=[(false,eval e env)]:=fun env=>aS gh
    refine Bv (gB rfl (by rw[Ou];rfl) hline ?_) (by unfold interactive;rw[st.at'.ge.kind];rfl) (HF ec)
    refine (ag (lL (h:=s.heap) st kg q hd hc fun vl Dv=>?_))
    refine aC Dv.own fun aw mU=>?_;try clear Dv;subst aw
    refine eR (id mU) fun o vs nn zz=>DP zz fun g c dn Xg hl rl=>?_
    refine⟨"list","list.append",plainAttrs_list,slot_list_append,type_list_append,⟨o,g,c⟩,fun b hb=>⟨o,by injection hb with hb;subst hb;exact g,dn⟩,?_⟩
    rw[Ou]
    refine cu rfl (c6 (cS (he A X ec J s st.freeze.at' _ _ ⟨fun d v aj tk e₁ k rp O=>(ag (spliced_nil ?_)),po.ex st⟩ (fW au))))
    have aq:=fz au e₁
    have cL:=po.step (h:=aj) (tk:=tk) e₁
    by_cases s9:xs.length<lim/\d.gw=true
    ·rw[if_pos s9] at cL
     have cv:=st.kept k
     refine eR (mU.kept k) fun pJ Dk n₁ zz=>DP zz fun g₁ c₁ Dx yT Z2 Vh=>?_
     have ka:=Vh.length
     have Qw:lim<=16777215:=by decide
     refine (ag (list_append_plainL (s:={ s with heap:=aj,toks:=tk }) ⟨pJ,n₁,g₁,c₁,Dx,yT⟩ (fun aE hp yU=>?_) (by have:=bu;simp at ka;lia)))
     refine bW hp fun se Xi zz=>iZ zz fun Si c₂ Vi KG=>?_
     refine cL.next _ (some (i,a)) aE tk rfl rfl (cv.turn (y:=x) yU.extBut ?_ kg q)
     refine⟨se,_,Xi,Si,c₂,Vi,KG,by simp;lia,?_⟩
     rw[Array.toList_push]
     exact (Vh.extBut yU.extBut (.inr rfl)).append (.cons (yR s9.2 rp) .nil)
    ·rw[if_neg s9] at aq;exact absurd rfl aq
theorem St.lets {C:Addr}{hs h h':Heap} (x:St base n A X ow sc j ec J h₀ h) (old:∀ l,A.frames=some l->Frames base hs l) (nC:hs.get? C=none) (n0:h₀.get? C=none) (bk:∃ o,h.get? C=some o/\book o) (t:Heap.ExtBut C h h') (hL:ec.locals≠C) :
  St base n A X ow sc j ec J h₀ h':=by
 have kp:=x.kp.extBut n0 t
 refine Exists.elim bk fun oC zz=>aC zz fun hC bC=>?_
 have ne:∀ {b o},h.get? b=some o->¬ book o->h'.get? b=some o:=fun {b o} e f=>t b o (fun q=>by subst q;rw[hC] at e;injection e with e;subst e;exact f bC) e
 have rep:∀ {Y:Addr->Prop}{d v},Rep (seen Y h) d v->Rep (seen Y h') d v:=fun r=>r.mono fun a o e q=>⟨ne e.1 (b8 q),e.2⟩
 have kb:∀ {Y:Addr->Prop}{d v},az (seen Y h) d v->az (seen Y h') d v:=fun r=>r.mono fun a o e q=>⟨ne e.1 (b8 q),e.2⟩
 have frames:∀ {l:List Env},Frames base hs l->Frames base h l->Frames base h' l:=by
  intro l
  induction l with
  | nil=>exact fun O O=>trivial
  | cons env r ih=>
   rintro ⟨_,⟨Xj,pJ,QC,_,Vj,_⟩,Vk⟩ ⟨hk,⟨L,o,hf,hn,ho,hc,hd⟩,hr⟩
   obtain rfl:L=Xj:=by rw[hf] at QC;exact Option.some.inj QC
   exact⟨hk,⟨L,o,hf,hn,t _ _ (fun q=>by rw[q,nC] at Vj;contradiction) ho,hc,hd⟩,ih Vk hr⟩
 have ns:∀ {f},h.Ns ec.locals f->h'.Ns ec.locals f:=fun ⟨o,es,ep,h1,h2,r⟩=>⟨o,es,ep,t _ _ hL h1,h2,r⟩
 refine⟨⟨fun z i d e1 e2=>?_,⟨?_,kp.stays x.stays,x.held.kept kp,x.at'.cx.depth,x.at'.cx.units⟩,x.at'.ge,x.at'.scope,x.lo.kept kp,x.at'.new⟩,x.top,x.fr,x.ns.imp fun O=>ns,kp,x.nL,fun aaQ a e=>?_,x.lo,x.held,x.stays⟩
 ·refine Exists.elim (x.at'.rel z i d e1 e2) fun v zz=>aC zz fun hv hr=>?_
  refine⟨v,?_,?_⟩
  ·rcases hv with ⟨q,m',Dj,hu⟩ | ⟨q,c,hc,o,h1,h2⟩
   ·exact .inl ⟨q,m',ns Dj,hu⟩
   ·exact .inr ⟨q,c,hc,o,ne h1 (fun ⟨_,_,z⟩=>by rw[h2] at z;contradiction),h2⟩
  ·exact hr.imp (fun r=>r.imp (fun o e nb O=>ne e nb) kb) rep
 ·refine Exists.elim x.at'.cx.stack fun l zz=>aC zz fun e f=>?_
  exact⟨l,e,frames (old l e) f⟩
 ·obtain⟨h1,h2,h3,o,h4,h5,h6⟩:=x.own aaQ a e
  exact⟨h1,h2,h3,o,ne h4 h5,h5,h6⟩
theorem yV {f1:Bool}{elt iter:Expr}{x y:PySem.Str}{px py pos spos:Pos}{ifs:List Expr}{scope:Scope}{pO pc:PE}{Ml:uV}{k i:Nat}{cap:List (PySem.Str × Nat)}{mV:PS}
  (hit:jG prog w base cl D n sc j iter Ml) (hc:tj prog w base cl D n (bA scope sc) ((x,k)::cap) ifs pc) (he:aM prog w base cl D n f1 (bA scope sc) ((x,k)::cap) elt pO)
  (ef:scope.kind=.function) (dv:∀ y∈scope.names,y.2≠.cell) (hx:scope.names.lookup x=some .local) (lG:∀ y∈scope.names,y.2=.local->scope.names.lookup y.1=some .local)
  (mR:∀ y,(y,NameKind.free)∈scope.names->sc.names.lookup y=some .cell)
  (BI:∀ y i,cap.lookup y=some i->j.lookup y=some i/\i≠k/\(y,NameKind.free)∈scope.names/\(bA scope sc).names.lookup y=some .cell)
  (hk:sc.names.lookup y=some .local) (kg:j.lookup y=some i) (hinj:∀ z,j.lookup z=some i->z=y)
  (gh:∀ J,bT D mV J=(ao D (.comp pO k Ml pc) J).on J fun v=>match v with | .list _=>.next (J.set i (some v)) | .cj _=>.next (J.set i (some v)) | _=>.stuck)
  (HF:∀ env:Env,env.scope=sc->env.scope.kind=.function->swapsWith (.ListComp elt [⟨.Name x px,iter,ifs,0⟩] scope pos) (some (.Name y py)) spos.line env=pure true)
  (hs:∀ env x,foldedSetIterable iter env x=pure x):bL prog w base cl D n own (some i) sc j (.Assign [.Name y py] (.ListComp elt [⟨.Name x px,iter,ifs,0⟩] scope pos) spos) mV:=bL.freeze fun A X ec J h₀ s ow ho st Q E po au=>by
 obtain rfl:=g9 ho
 rw[gh] at po au
 rw[exec_Assign_Name_used _ _ _ _ (HF ec st.at'.scope st.at'.ge.kind)]
 refine av (aJ ?_)
 show aL _ A (do let _ <- comprehension (.ListComp elt [⟨.Name x px,iter,ifs,0⟩] scope pos) scope ec _ (newList []) false (eval iter ec) (some (assign (.Name y py) ec))) _ _ s
 refine ay (uM (use:=some (assign (.Name y py) ec)) (Q:=fun O s'=>Q .next s') hit hc he ef dv hx lG mR BI hs st.at' (fun done h' tk aaP C e kp o nD nC We hm=>?_) (po.ex st) (fW au)) (fun O s' hq=>aG (aG hq))
 have cv:=st.kept kp
 refine Exists.elim cv.ns fun m Yt=>?_
 refine Exists.elim hm fun mC hC=>?_
 show wpAny _ A (assign (.Name y py) ec (.ref aaP)) _ _ _
 refine wpAny_assign_Name (wpAny_storeName_local (s:={ s with heap:=h',toks:=tk }) (by unfold Env.kindOf;rw[st.at'.scope];exact hk) Yt (fun aE Vl yU=>?_) (ej st.at'.ge))
 have Yu:C≠ec.locals:=fun q=>by
  obtain⟨_,o',e',_⟩:=st.mS
  rw[<- q,nC] at e';contradiction
 refine Exists.elim (o9 st kp ⟨aaP,rfl,nD,o⟩ Yt Vl yU hk kg hinj) fun a fj=>?_
 refine eR hC fun oC es pC zz=>b6 zz fun c1 c2 c3=>?_
 have Yv:=yU.extBut _ _ Yu c1
 refine⟨mC,⟨oC,es,pC,Yv,c2,c3⟩,fun bG Dw=>?_⟩
 refine po.next (J.set i (some (.list done))) (some (i,a)) bG _ (by rw[kP e]) rfl (fj.lets (hs:=s.heap) (C:=C) (fun l el=>?_) nC (st.kp.missing nC) ⟨oC,Yv,_,_,c2⟩ Dw.extBut (Ne.symm Yu))
 refine Exists.elim st.frames fun outer zz=>aC zz fun fr f=>?_
 rw[fr] at el;injection el with el;subst el;exact f
end
theorem K4 {k:PySem.Str->Option NameKind}{m:PySem.Str->Option Value}:bindL k [] m=m:=rfl
theorem K5 {k:PySem.Str->Option NameKind}{r:List (PySem.Str × Value)}{m:PySem.Str->Option Value}:bindL k ((n,v)::r) m=bindL k r (if k n=some .local then fun y=>if y=n then some v else m y else m):=rfl
theorem yW {k:PySem.Str->Option NameKind}{m:PySem.Str->Option Value}:bindC k [] m=m:=rfl
theorem yX {k:PySem.Str->Option NameKind}{r:List (PySem.Str × Value)}{m:PySem.Str->Option Value}:bindC k ((n,v)::r) m=bindC k r (if k n=some .local then m else fun y=>if y=n then some v else m y):=rfl
section
variable {prog:Program}{w:World}{base:Heap}{cl:dC->Value}{A:Around}{X:Addr->Prop}{s:Shared}{D:Fn->List V->R V}{n:Nat}{sc:Scope}{j:List (PySem.Str × Nat)}{K:Frag}
theorem wx {de:Option Nat}{ec:Env}{body:List Stmt}{pb:aB}{ds:List V}{ws:List Value}{aj:Heap}{tk k:Nat}{m:PySem.Str->Option Value}{L:Addr}
  (hb:b0 prog w base cl D n none de sc j body pb) (cx:Cx base A s.heap (n+1)) (low:nu X s.heap) (new:∀ a,X a->base.get? a=none) (hL:L=s.heap.objs.size)
  (pL:ec.locals=L) (yv:ec.frame=some L) (Tg:ec.scope=sc) (ge:Ge ec) (Mm:aj.Ns L m) (Vm:∀ b o,s.heap.get? b=some o->aj.get? b=some o)
  (rp:az (seen X s.heap) ds ws) (Xk:∀ x i v,j.lookup x=some i->ws[i]?=some v->Var aj ec x v) {Q E:Value->Shared->Prop}
  (p:Po base cl X false s (ak D pb (ds.map some++List.replicate k none)).value Q E) (au:ak D pb (ds.map some++List.replicate k none)≠.stuck) :
  aL (model prog w) (A.deeper ec) (execs body ec) (fun f s'=>Q (match f with | .ret v=>v | _=>.none) s')
   (fun e s'=>wpAny (model prog w) (A.deeper ec) (leaving ec e) (fun O wa=>E e wa) (fun e' wa=>E e' wa) s') { s with heap:=aj,toks:=tk }:=by
 have kp:Kept base s.heap aj:=.of_keeps Vm
 refine Exists.elim cx.stack fun l zz=>aC zz fun hl hF=>?_
 have Z3:base.get? L=none:=by
  cases q:base.get? L with
  | none=>rfl
  | some o=>have:=cx.stays L o q;rw[hL,bV] at this;contradiction
 refine eR (id Mm) fun oL es ep zz=>b6 zz fun Z4 Yw O=>?_
 have fr:(A.deeper ec).frames=some (ec::l):=by show A.frames.map (ec::·)=_;rw[hl];rfl
 have held:cB (A.deeper ec) s.heap:=cx.held
 have st:St base n (A.deeper ec) X none sc j ec (ds.map some++List.replicate k none) s.heap aj:=by
  refine⟨⟨fun x i d e1 e2=>?_,⟨⟨_,fr,by rw[ge.kind];decide,⟨L,oL,yv,Z3,Z4,⟨_,_,Yw⟩,book.eI ⟨_,_,Yw⟩⟩,hF.kept kp⟩,kp.stays cx.stays,held.kept kp,?_,?_⟩,ge,Tg,low.kept kp,new⟩,⟨l,fr⟩,pL ▸ yv,⟨m,pL ▸ Mm⟩,kp,by rw[pL,hL];exact bV _,(fun O O q=>by contradiction),low,held,cx.stays⟩
  ·have hi:ds[i]?=some d:=by
    by_cases q:i<(ds.map some).length
    ·rw[List.getElem?_append_left q,List.getElem?_map] at e2
     cases z:ds[i]? with
     | none=>rw[z] at e2;contradiction
     | some d'=>rw[z] at e2;cases e2;rfl
    ·rw[List.getElem?_append_right (by lia),List.getElem?_replicate] at e2
     split at e2<;>cases e2
   refine Exists.elim (rp.get hi) fun v zz=>aC zz fun hv hr=>?_
   exact⟨v,Xk x i v e1 hv,kp.rep hr⟩
  ·have:=cx.depth;show A.depth+1+n<=900;lia
  ·have:=cx.units;show A.units+3+10*n<=9000;lia
 refine hb (A.deeper ec) X ec _ s.heap { s with heap:=aj,toks:=tk } none rfl st _ _ ⟨fun ρ' jH h' mE e O mV=>?_,fun d v ρ' h' mE e mV rv=>?_,fun x ρ' e h' mE q mV y=>?_⟩ au
 ·exact p.ok .none .none h' mE (by rw[e];rfl) mV.kp rQ fun q=>by contradiction
 ·exact p.ok d v h' mE (by rw[e];rfl) mV.kp rv fun q=>by contradiction
 ·refine Exists.elim mV.frames fun outer zz=>aC zz fun Xl Z5=>?_
  refine wpAny_bind (iF (base:=base) (h₀:=s.heap) (s:={ s with heap:=h',toks:=mE }) Xl Z5 mV.fr y mV.kp fun aE kn Sj=>?_)
  refine fx (base:=base) (s:={ s with heap:=aE,toks:=mE }) Sj fun bG Ti Xm=>?_
  exact p.ex x e bG mE (by rw[q];rfl) (mV.kp.after (kn.trans Ti)) Xm.weak
theorem sm {α:Type}:∀ {ps:List PySem.Str}{ws:List α}{i:Nat}{x:PySem.Str}{v:α},ps.Nodup->ps[i]?=some x->ws[i]?=some v->(ps.zip ws).reverse.lookup x=some v
 | [],_,i,_,_,_,h,_=>by simp at h
 | p::ps,[],i,_,_,_,_,h=>by simp at h
 | p::ps,u::ws,i,x,v,nd,h1,h2=>by
  have Yx:=List.nodup_cons.mp nd
  rw[List.zip_cons_cons,List.reverse_cons,List.lookup_append]
  cases i with
  | zero=>
   simp at h1 h2
   subst h1;subst h2
   have hn:(ps.zip ws).reverse.lookup p=none:=by
    rw[List.lookup_eq_none_iff]
    intro q hq
    have:=List.of_mem_zip (List.mem_reverse.mp hq)
    simp only[bne_iff_ne,ne_eq,beq_eq_false_iff_ne]
    intro e;exact Yx.1 (e ▸ this.1)
   rw[hn];simp[List.lookup]
  | succ i=>
   simp at h1 h2
   rw[sm Yx.2 h1 h2];rfl
structure K6 (K:Frag) (a:Addr) (fd:FuncData) (body:List Stmt) (ps:List PySem.Str) (j:List (PySem.Str × Nat)):Prop where
 here:∃ oc od Wi,K.lookup a=some ⟨oc,od,.func fd,Wi⟩
 code:codeIn K fd.code fd.qualname=true
 body:fd.body=.stmts body
 globals:fd.globals=mainGlobals
 builtins:fd.builtins=builtinsNs
 closure:fd.closure=[]
 co:fd.scope.isCoroutine=false
 gen:fd.scope.isGenerator=false
 kind:fd.scope.kind=.function
 BO:∀ x∈fd.scope.names,x.2≠.free
 nodup:ps.Nodup
 slots:∀ x i,j.lookup x=some i->i<ps.length->ps[i]?=some x
def Binds (K:Frag) (fd:FuncData) (ps:List PySem.Str) (d:a0):Prop:=∀ (s:Shared) (g:Addr->Obj->Prop) (ds:List V) (vs:List Value) (J:Ρ),K.In s.heap->d.start ds=some J->az g ds vs->
 ∃ (ws:List Value) (Du:List V) (k:Nat),BindsTo s fd ⟨vs,[]⟩ (ps.zip ws)/\ws.length=ps.length/\az g Du ws/\J=Du.map some++List.replicate k none
theorem QD {de:Option Nat}{a:Addr}{fd:FuncData}{body:List Stmt}{ps:List PySem.Str}{d:a0} (W:Wd K base) (I:K6 K a fd body ps j) (dv:∀ x∈fd.scope.names,x.2≠.cell) (pL:∀ x∈ps,fd.scope.names.lookup x=some .local)
  (B:Binds K fd ps d) (hb:b0 prog w base cl D n none de fd.scope j body d.body) (ds:List V) (vs:List Value) (cx:Cx base A s.heap (n+1)) (low:nu X s.heap) (new:∀ a,X a->base.get? a=none) (rp:az (seen X s.heap) ds vs) :
  kM prog w base cl A X false (call (.ref a) vs []) s (match d.start ds with | some J=>(ak D d.body J).value | none=>.stuck):=by
 cases gh:d.start ds with
 | none=>exact .stuck
 | some J=>
  intro Q E p au
  refine kR W.top fun Vn loose mg mb T=>?_
  have jC:K.In s.heap:=fun b o q=>cx.stays b o (W.jC b o q)
  refine eR (B s _ ds vs J jC gh rp) fun ws Du k zz=>iZ zz fun mI hlen Z6 aw=>?_;clear zz;subst aw
  refine eR I.here fun oc od Wi hl=>?_
  refine lE (Bw (fd:=fd) (body:=body) (binds:=ps.zip ws) (by have:=cx.depth;show A.depth<1000;lia) (jC _ _ hl) rfl (T.nolimit.keeps cx.stays) (codeRec_of jC I.code) I.body mI dv
   (fun x hx=>pL _ (List.of_mem_zip hx).1) (fun aj Mm hk=>?_) I.co I.gen I.kind)
  have ge:Ge (callEnv fd s.heap.objs.size a):=⟨I.kind,I.globals,I.builtins,fun y hy=>by
   rcases hy with hy | hy
   ·exact absurd rfl (dv _ (lookup_mem hy))
   ·exact absurd rfl (I.BO _ (lookup_mem hy))⟩
  refine wx (j:=j) (sc:=fd.scope) hb cx low new rfl rfl rfl rfl ge Mm hk Z6 (fun x i v e1 e2=>?_) p fun q=>au (by dsimp only;rw[q];rfl)
  have hi:i<ps.length:=by have:=(List.getElem?_eq_some_iff.mp e2).1;lia
  have hx:=I.slots x i e1 hi
  exact .inl ⟨pL x (List.mem_of_getElem? hx),_,Mm,sm I.nodup hx e2⟩
set_option tactic.hygienic true in
theorem pd {de:Option Nat}{a:Addr}{fd:FuncData}{body:List Stmt}{hJ:PySem.Str}{d:a0} (W:Wd K base) (I:K6 K a fd body [hJ] j) (dv:fd.scope.names.lookup hJ=some .cell) (Sl:∀ y,(y,NameKind.cell)∈fd.scope.names->y=hJ)
  (HG:∀ b,(cellsFrom b fd.scope.names []).lookup hJ=some b) (hd:d.params=1) (Sn:d.defaults=[]) (mI:∀ v,bindArgs fd ⟨[v],[]⟩=pure [(hJ,v)])
  (hb:b0 prog w base cl D n none de fd.scope j body d.body) (ds:List V) (vs:List Value) (cx:Cx base A s.heap (n+1)) (low:nu X s.heap) (new:∀ a,X a->base.get? a=none) (rp:az (seen X s.heap) ds vs) :
  kM prog w base cl A X false (call (.ref a) vs []) s (match d.start ds with | some J=>(ak D d.body J).value | none=>.stuck):=by
 cases gh:d.start ds with
 | none=>exact .stuck
 | some J=>
  intro Q E p au
  refine kR W.top fun Vn loose mg mb T=>?_
  have jC:K.In s.heap:=fun b o q=>cx.stays b o (W.jC b o q)
  obtain⟨iX,rfl,rfl⟩:∃ iX,ds=[iX]/\J=[iX].map some++List.replicate (d.locals - d.params) none:=by
   unfold a0.start at gh
   rw[hd,Sn] at gh
   split at gh
   ·rename_i q
    simp at q
    obtain⟨iX,rfl⟩:∃ iX,ds=[iX]:=List.length_eq_one_iff.mp (by lia)
    exact⟨iX,rfl,by rw[hd];simpa using gh.symm⟩
   ·contradiction
  have Tj:=rp
  simp only[du,c5] at Tj
  refine bW Tj fun BK r zz=>b6 zz fun aw r0 gS=>?_;clear zz;try clear Tj;subst aw;subst gS
  refine eR I.here fun oc od Wi hl=>?_
  have O6:(cellsFrom (s.heap.objs.size+1) fd.scope.names []).lookup hJ=some (s.heap.objs.size+1):=HG _
  refine lE (mJ (fd:=fd) (body:=body) (binds:=[(hJ,BK)]) (by have:=cx.depth;show A.depth<1000;lia) (jC _ _ hl) rfl (T.nolimit.keeps cx.stays) (codeRec_of jC I.code) I.body (mI BK) I.closure
   (fun x hx=>by simp at hx;subst hx;exact .inr ⟨dv,by rw[O6];rfl⟩) (fun s₁ ic=>?_) I.co I.gen I.kind)
  refine bW ic.toInCall.same fun aj tk aw=>?_;subst aw
  have ge:Ge (callEnvC fd s.heap.objs.size a):=⟨I.kind,I.globals,I.builtins,fun y hy=>by
   rcases hy with hy | hy
   ·obtain rfl:=Sl y (lookup_mem hy)
    exact⟨_,O6⟩
   ·exact absurd rfl (I.BO _ (lookup_mem hy))⟩
  refine wx (j:=j) (sc:=fd.scope) hb cx low new rfl rfl rfl rfl ge ic.toInCall.ns ic.toInCall.keep rp (fun x i v e1 e2=>?_) p fun q=>au (by dsimp only;rw[q];rfl)
  have hi:i<1:=by have:=(List.getElem?_eq_some_iff.mp e2).1;simpa using this
  have hx:=I.slots x i e1 hi
  have Z7:i=0:=by lia
  subst Z7
  simp at hx e2
  subst hx;subst e2
  refine .inr ⟨.inl dv,s.heap.objs.size+1,O6,?_⟩
  have hc:=ic.cell hJ _ O6
  have hk:(callEnvC fd s.heap.objs.size a).kindOf hJ=some .cell:=dv
  simp only[yX,yW,hk] at hc
  simpa using hc
end
def fc (prog:Program) (w:World) (base:Heap) (cl:dC->Value) (fr:Bool) (f:Value) (p:Prim):Prop:=
 ∀ (A:Around) (X:Addr->Prop) (s:Shared) (ds:List V) (vs:List Value),cB A s.heap->A.units+100<cLine->nu X s.heap->az (seen X s.heap) ds vs->Ev prog w base cl A X fr (call f vs []) s (bq p ds)
section
variable {prog:Program}{w:World}{base:Heap}{cl:dC->Value}{A:Around}{X:Addr->Prop}{s:Shared}{D:Fn->List V->R V}{n:Nat}{sc:Scope}{j:List (PySem.Str × Nat)}{K:Frag}
theorem uN {fr:Bool}{f:Value}{p:Prim}{es:List Expr}{ps:fZ}{pos:Pos}{ec:Env}{J:Ρ} (P:fc prog w base cl fr f p) (h:kf prog w base cl D n sc j es ps) (x:At base n A X none sc j ec J s.heap) {Q E:Value->Shared->Prop}
  (po:Po base cl X fr s ((cT D ps J).bind fun vs=>bq p vs) Q E) (au:((cT D ps J).bind fun vs=>bq p vs)≠.stuck) :
  aL (model prog w) A (spliced (backTo pos (starEach es ec))) (fun vs s'=>aL (model prog w) A (call f vs []) Q E s') E s:=by
 refine h A X ec J s pos x _ _ ⟨fun ds vs aj tk e k rp=>?_,po.ex.of⟩ (R.aN au)
 have x':=x.kept k
 exact (P A X { s with heap:=aj,toks:=tk } ds vs x'.cx.held (fV x'.cx.units) x'.low rp).g _ _ (po.step e k) (R.aZ au e)
theorem K7 {fr:Bool}{id:String}{x:PySem.Str}{np pos:Pos}{es:List Expr}{ps:fZ}{p:Prim} (W:Wd K base) (P:fc prog w base cl fr (.builtin id) p) (hk:sc.names.lookup x=some .globalImplicit) (hg:nsIn K mainGlobals x=some none) (hb:bootBuiltins x=some (.builtin id))
  (h:kf prog w base cl D n sc j es ps) (r7:∃ (t:Env->Sem Value) (r:Env->List (Bool × Sem Value)),∀ env,starEach es env=(false,t env)::r env) (zv:∀ env,(backTo pos (starEach es env)).any (·.1)=false)
  (hn:x≠"__name__") (hd:(x == ("__debug__":PySem.Str))=false):aM prog w base cl D n fr sc j (.Call (.Name x np) es [] pos) (.prim p ps):=fun A X ec J s a Q E po au=>by
 refine dA (ag (cJ W a.cx.stays a.ge a.scope hk hg hb ?_ hn hd))
 refine cu (zv ec) ?_
 refine bW r7 fun t r gh=>?_
 have hs:=uN (pos:=pos) P h a po au
 rw[gh] at hs ⊢
 exact c6 hs
theorem K8 {fr:Bool}{T:String}{x:PySem.Str}{np pos:Pos}{es:List Expr}{ps:fZ}{p:Prim} (W:Wd K base) (P:fc prog w base cl fr (.type T) p) (hk:sc.names.lookup x=some .globalImplicit) (hg:nsIn K mainGlobals x=some none) (hb:bootBuiltins x=some (.type T))
  (h:kf prog w base cl D n sc j es ps) (r7:∃ (t:Env->Sem Value) (r:Env->List (Bool × Sem Value)),∀ env,starEach es env=(false,t env)::r env) (zv:∀ env,(backTo pos (starEach es env)).any (·.1)=false)
  (hn:x≠"__name__") (hd:(x == ("__debug__":PySem.Str))=false):aM prog w base cl D n fr sc j (.Call (.Name x np) es [] pos) (.prim p ps):=fun A X ec J s a Q E po au=>by
 refine dA (ag (cJ W a.cx.stays a.ge a.scope hk hg hb ?_ hn hd))
 refine dQ (zv ec) ?_
 refine bW r7 fun t r gh=>?_
 have hs:=uN (pos:=pos) P h a po au
 rw[gh] at hs ⊢
 exact c6 hs
def iU (prog:Program) (w:World) (base:Heap) (cl:dC->Value) (name:PySem.Str) (p:Prim):Prop:=
 ∃ Vo,(PlainAttrs "str"/\Slot "str" name Vo/\typeOf (.builtin Vo)=pure (.type "method_descriptor"))/\∀ (A:Around) (X:Addr->Prop) (s:Shared) (l:List Nat) (v:Value) (ds:List V) (vs:List Value),cB A s.heap->A.units+100<cLine->nu X s.heap->Rep (seen X s.heap) (.str l) v->az (seen X s.heap) ds vs->Ev prog w base cl A X false (call (.builtin Vo) (v::vs) []) s (bq p (.str l::ds))
def iV (prog:Program) (w:World) (base:Heap) (cl:dC->Value) (name:PySem.Str) (p:Prim):Prop:=
 ∃ Vp,(PlainAttrs "bytes"/\Slot "bytes" name Vp/\typeOf (.builtin Vp)=pure (.type "method_descriptor"))/\∀ (A:Around) (X:Addr->Prop) (s:Shared) (l:List Nat) (v:Value) (ds:List V) (vs:List Value),cB A s.heap->A.units+100<cLine->nu X s.heap->Rep (seen X s.heap) (.bytes l) v->az (seen X s.heap) ds vs->Ev prog w base cl A X false (call (.builtin Vp) (v::vs) []) s (bq p (.bytes l::ds))
set_option tactic.hygienic true in
theorem O7 {f1:Bool}{o:Expr}{name:PySem.Str}{ap pos:Pos}{es:List Expr}{ob:PE}{ps:fZ}{p:Prim}
  (MS:(ps=.nil/\∀ l,bq p [.str l]=.stuck)∨iU prog w base cl name p) (MB:(ps=.nil/\∀ l,bq p [.bytes l]=.stuck)∨iV prog w base cl name p)
  (ho:aM prog w base cl D n f1 sc j o ob) (h:kf prog w base cl D n sc j es ps)
  (Kp:∀ env whole,attributeBase o name env whole=whole)
  (RX:∀ env,((backTo pos (starEach es env)).all (fun x=>!x.1)&&(backToKw pos (keywordEach [] env)).all (fun x=>x.1.isSome)&&decide (es.length+([]:List Keyword).length+(if ([]:List Keyword).isEmpty then 0 else 1)<30))=true)
  (hline:(ap.endLine == pos.line)=true) (zv:∀ env,(backTo pos (starEach es env)).any (·.1)=false)
  (Vq:(es=[]/\ps=.nil)∨∃ (t:Env->Sem Value) (r:Env->List (Bool × Sem Value)),∀ env,starEach es env=(false,t env)::r env) :
  aM prog w base cl D n false sc j (.Call (.Attribute o name ap) es [] pos) (.aH p ob ps):=fun A X ec J s a Q E po au=>by
 refine gB (Kp ec _) (RX ec) hline (ho A X ec J s a _ _ ⟨fun d v aj tk e k rp yv=>?_,po.ex.of⟩ (R.aN au))
 clear yv
 have cL:=po.step (tk:=tk) e k
 have aq:=R.aZ au e
 have hg:=R.mQ aq
 rw[R.guard,hg,if_pos rfl] at cL aq
 have a₁:=a.kept k
 have tail:∀ {id:String},(∀ (s:Shared) ds vs,cB A s.heap->nu X s.heap->Rep (seen X s.heap) d v->az (seen X s.heap) ds vs->Ev prog w base cl A X false (call (.builtin id) (v::vs) []) s (bq p (d::ds)))->
   aL (model prog w) A (callWith pos (.builtin id) [v] (backTo pos (starEach es ec)) []) Q E { s with heap:=aj,toks:=tk }:=fun {id} P=>by
  rcases Vq with ⟨rfl,rfl⟩ | ⟨t,r,gh⟩
  ·skip
   exact (ag (callWith_method0 (P { s with heap:=aj,toks:=tk } [] [] a₁.cx.held a₁.low rp .nil _ _ cL aq)))
  ·refine cu (zv ec) ?_
   have hs:aL (model prog w) A (spliced (backTo pos (starEach es ec))) (fun vs s'=>aL (model prog w) A (call (.builtin id) (v::vs) []) Q E s') E { s with heap:=aj,toks:=tk }:=by
    refine h A X ec J { s with heap:=aj,toks:=tk } pos a₁ _ _ ⟨fun ds vs aE bF bM k₂ gW=>?_,cL.ex.of⟩ (R.aN aq)
    have a₂:=a₁.kept k₂
    have yS:=cL.step (tk:=bF) bM k₂
    have cI:=R.aZ aq bM
    exact (P { s with heap:=aE,toks:=bF } ds vs a₂.cx.held a₂.low (k₂.rep rp) gW).g _ _ yS cI
   rw[gh] at hs ⊢
   exact c6 hs
 cases d<;>first | (contradiction;done) | skip
 ·rename_i l
  rcases MS with ⟨rfl,q⟩ | ⟨Vo,hS,PS⟩
  ·skip;exact absurd (q l) aq
  ·refine bW (fy rp) fun y t zz=>aC zz fun aw O=>?_;clear zz;subst aw
   exact⟨"str",Vo,hS.1,hS.2.1,hS.2.2,typeIs_str _ _ _,(fun O q=>by contradiction),tail fun s ds vs hh hl r rl=>PS A X s l _ ds vs hh (fV a.cx.units) hl r rl⟩
 ·rename_i l
  rcases MB with ⟨rfl,q⟩ | ⟨Vp,hB,PB⟩
  ·skip;exact absurd (q l) aq
  ·refine bW (ei rp) fun y t zz=>aC zz fun aw O=>?_;clear zz;subst aw
   exact⟨"bytes",Vp,hB.1,hB.2.1,hB.2.2,W.typeIs_bytes _ _ _,(fun O q=>by contradiction),tail fun s ds vs hh hl r rl=>PB A X s l _ ds vs hh (fV a.cx.units) hl r rl⟩
end
section
variable {prog:Program}{w:World}{base:Heap}{cl:dC->Value}
theorem eA {g:Addr->Obj->Prop}{d:V}{vs:List Value} (r:az g [d] vs):∃ v,vs=[v]/\Rep g d v:=by
 simp only[du,c5] at r;refine bW r fun v r zz=>b6 zz fun aw h gS=>?_;clear zz;subst aw;subst gS;exact⟨v,rfl,h⟩
theorem QF {g:Addr->Obj->Prop}{d e:V}{vs:List Value} (r:az g [d,e] vs):∃ v u,vs=[v,u]/\Rep g d v/\Rep g e u:=by
 simp only[du,c5] at r;obtain⟨v,r,rfl,h,u,r',rfl,h',rfl⟩:=r;exact⟨v,u,rfl,h,h'⟩
theorem K9 {fr:Bool}:fc prog w base cl fr (.builtin "len") .len:=fun A X s ds vs hh hu hl r=>by
 cases ds with
 | nil=>exact .stuck
 | cons d ds=>
 cases d<;>cases ds<;>try exact .stuck
 ·refine Exists.elim (eA r) fun v zz=>aC zz fun aw r1=>?_;clear zz;subst aw
  refine cH r1 fun y t e h=>?_
  exact Ev.flat (fun O O O=>trivial) fun Q E hQ=>P.len_str (by rw[str_len e];lia) (hQ _ _ (by rw[str_len e];exact bD _ _))
 ·refine Exists.elim (eA r) fun v zz=>aC zz fun aw r1=>?_;clear zz;subst aw
  refine aU r1 fun y t e h=>?_
  exact Ev.flat (fun O O O=>trivial) fun Q E hQ=>W.len_bytes (by rw[bf e];lia) (hQ _ _ (by rw[bf e];exact bD _ _))
 ·refine Exists.elim (eA r) fun v zz=>aC zz fun aw r1=>?_;clear zz;subst aw
  refine dR r1 fun a dd sl ws nn hX ha hlen rl=>?_
  have e:=rl.length
  simp at e
  exact Ev.flat (fun O O O=>trivial) fun Q E hQ=>Calls.call_len_list (bH ha) (by lia) (hQ _ _ (by rw[e];exact bD _ _))
 ·refine Exists.elim (eA r) fun v zz=>aC zz fun aw r1=>?_;clear zz;subst aw
  refine jy r1 fun a dd sl ws nn hX ha hlen rl=>?_
  have e:=rl.length
  simp at e
  exact Ev.flat (fun O O O=>trivial) fun Q E hQ=>PyProof.Rows.len_tuple (fU ha) (by lia) (hQ _ _ (by rw[e];exact bD _ _))
theorem qe (i:Int):(PySem.Str.ofString (toString i)).cps.toList=bI i:=by rw[PySem.Str.ofString_eq_toList];simp[bI]
set_option tactic.hygienic true in
theorem La {fr:Bool}:fc prog w base cl fr (.type "str") .str:=fun A X s ds vs hh hu hl r=>by
 cases ds with
 | nil=>exact .stuck
 | cons d ds=>
 cases d<;>cases ds<;>try exact .stuck
 rename_i i
 show Ev prog w base cl A X fr _ s (R.guard (decide (i.natAbs.log2<1920)) (.ok (.str (bI i))))
 obtain⟨v,rfl,r1⟩:=eA r
 refine aQ r1 fun t=>?_
 refine Ev.guard fun hg=>?_
 simp only[decide_eq_true_eq] at hg
 have hz:=int_text_fits hg
 exact Ev.flat (fun O O O=>trivial) fun Q E hQ=>PySem.P.str_of_int hg (hQ _ _ (c9 _ (qe i) (by
  rw[<- qe i]
  have:=hz
  rw[show sizeLine=16777216 from rfl] at this
  simpa [PySem.Str.length] using this)))
set_option tactic.hygienic true in
theorem Lb {fr:Bool}:fc prog w base cl fr (.builtin "ord") .ord:=fun A X s ds vs hh hu hl r=>by
 cases ds with
 | nil=>exact .stuck
 | cons d ds=>
 cases d<;>cases ds<;>try exact .stuck
 case str.cons l _ _=>cases l with
  | nil=>exact .stuck
  | cons c m=>cases m<;>exact .stuck
 rename_i l
 cases l with
 | nil=>exact .stuck
 | cons c m=>
 cases m with
 | cons _ _=>exact .stuck
 | nil=>
 refine Exists.elim (eA r) fun v zz=>aC zz fun aw r1=>?_;clear zz;subst aw
 refine cH r1 fun y t e h=>?_
 obtain rfl:y=⟨#[c]⟩:=by
  obtain⟨cps⟩:=y
  congr 1
  exact Array.toList_inj.mp e
 exact Ev.flat (fun O O O=>trivial) fun Q E hQ=>PySem.P.ord_of_char (hQ _ _ (bD _ _))
theorem Lc {x:Array UInt8}{t:Tok}{A:Around}{s:Shared}{Q E:Value->Shared->Prop} (h:∀ tk,Q (.bool true) { s with toks:=tk }):wpAny (model prog w) A (call (.builtin "isinstance") [.bytes x t,.type "bytes"]) Q E s:=
 call_isinstance (isinstance_true (Tx:="bytes") F.isi_meta_bytes F.sub_bytes_bytes) ⟨rfl,h s.toks⟩
end
section
open PySem.Builtin PySem.Builtin.Str
theorem jI {c x:Nat}{r:List Nat} (h:x≠c) {p:List Nat}{ps:List (List Nat)} (e:ai c r=p::ps):ai c (x::r)=(x::p)::ps:=by rw[aT,if_neg h,e]
theorem yZ (c:Nat):∀ (p:List Nat),c∉p->ai c p=[p]:=by
 intro z0
 induction z0 with
 | nil=>
  exact fun O=>rfl
 | cons x r ih=>
  intro h
  have h1:x≠c:=fun q=>h (q ▸ .head _)
  rw[aT,if_neg h1,ih fun q=>h (.tail _ q)]
theorem aW (c:Nat) (q:List Nat):∀ (p:List Nat),c∉p->ai c (p++c::q)=p::ai c q:=by
 intro z0
 induction z0 with
 | nil=>
  intro _
  rw[List.nil_append,aT,if_pos rfl]
 | cons x r ih=>
  intro h
  have h1:x≠c:=fun q=>h (q ▸ .head _)
  rw[List.cons_append,aT,if_neg h1,ih fun q=>h (.tail _ q)]
theorem pg (c:Nat):∀ (ps:List (List Nat)),ps≠[]->(∀ p∈ps,c∉p)->ai c (bj [c] ps)=ps
 | [],h,_=>absurd rfl h
 | [p],_,h=>yZ c p (h p (.head _))
 | p::q::r,_,h=>by
  rw[aV,List.append_assoc]
  show ai c (p++c::bj [c] (q::r))=_
  rw[aW c _ p (h p (.head _)),pg c (q::r) (by simp) fun z hz=>h z (.tail _ hz)]
theorem join_list (sep:PySem.Str):∀ (ps:List PySem.Str),(PySem.Str.join sep ps).cps.toList=bj sep.cps.toList (ps.map fun p=>p.cps.toList)
 | []=>rfl
 | [p]=>rfl
 | p::q::r=>by
  show ((p++sep)++PySem.Str.join sep (q::r)).cps.toList=_
  rw[lH (lH rfl rfl) (join_list sep (q::r))]
  rfl
theorem split_list (x:PySem.Str) (c:Nat):(Txt.split x ⟨#[c]⟩).map (fun p=>p.cps.toList)=ai c x.cps.toList:=by
 have h1:=StrLaws.join_split x ⟨#[c]⟩
 have h2:=StrLaws.split_free x c
 have h3:Txt.split x ⟨#[c]⟩≠[]:=fun q=>by
  unfold Txt.split at q
  split at q
  ·contradiction
  ·split at q
   ·contradiction
   ·have:=length_partsBetween x (occurrences x ⟨#[c]⟩ 0 x.length (x.length+1)) (⟨#[c]⟩:PySem.Str).length
    rw[q] at this;simp at this
 have h4:=join_list ⟨#[c]⟩ (Txt.split x ⟨#[c]⟩)
 rw[h1] at h4
 rw[h4]
 refine (pg c _ (by simpa using h3) fun p hp=>?_).symm
 refine Exists.elim (List.mem_map.mp hp) fun z zz=>aC zz fun hz aw=>?_;clear zz;subst aw
 exact h2 z hz
section
variable {prog:Program}{w:World}{base:Heap}{cl:dC->Value}{A:Around}{X:Addr->Prop}{s:Shared}
theorem gF {ds:List V}{vs:Array Value}{fr:Bool}{Q E:Value->Shared->Prop} (p:Po base cl X fr s (.ok (.list ds)) Q E) (hl:ds.length<=16777216) (hX:nu X s.heap) (r:az (seen X s.heap) ds vs.toList) (tk:Nat) :
  Q (.ref s.heap.objs.size) { s with heap:=s.heap.push { cls:=.type "list",data:=.seq vs },toks:=tk }:=by
 have k:=Kept.push base s.heap { cls:=.type "list",data:=.seq vs }
 have e:(s.heap.push { cls:=.type "list",data:=.seq vs }).get? s.heap.objs.size=some { cls:=.type "list",data:=.seq vs }:=Heap.get?_push_size _ rfl
 have own:bE (s.heap.push { cls:=.type "list",data:=.seq vs }) X s.heap.objs.size (.list ds):=⟨_,vs,0,e,rfl,rfl,rfl,hl,k.kb (r.fresh (bV _))⟩
 exact p.ok _ _ _ tk rfl k (own.rep (hX.none (bV _))) fun O=>⟨_,rfl,bV _,own⟩
theorem HJ {g:Addr->Obj->Prop}:∀ (l:List (PySem.Str × Tok)),(∀ p∈l,p.1.length<=16777216)->az g ((l.map fun p=>p.1.cps.toList).map V.str) (strValues l):=by
 intro z0
 induction z0 with
 | nil=>exact fun O=>.nil
 | cons p r ih=>exact fun h=>.cons (by exact⟨p.1,p.2,rfl,rfl,by have:=h p (.head _);simpa [PySem.Str.length] using this⟩) (ih fun q hq=>h q (.tail _ hq))
theorem BP {x:PySem.Str}{c:Nat}{t u:Tok}{Q:Value->Shared->Prop}{E:Value->Shared->Prop} (ka:x.length<=lim)
  (h:∀ (l:List (PySem.Str × Tok)) tk,l.map (·.1)=Txt.split x ⟨#[c]⟩->Q (.ref s.heap.objs.size) { s with heap:=s.heap.push { cls:=.type "list",data:=.seq (strValues l).toArray },toks:=tk }):wpAny (model prog w) A (call (.builtin "str.split") [.str x t,.str ⟨#[c]⟩ u]) Q E s:=by
 have j9:lim+1<=sizeLine:=by decide
 have hy:((⟨#[c]⟩:PySem.Str).length == 0)=false:=rfl
 have Xn:x.length<=sizeLine:=by lia
 cases h1:(decide (x.length<(⟨#[c]⟩:PySem.Str).length)||decide (strKind x<strKind ⟨#[c]⟩))
 ·cases hf:(occurrences x ⟨#[c]⟩ 0 x.length (x.length+1)).isEmpty
  ·have Ld:(partsBetween x (occurrences x ⟨#[c]⟩ 0 x.length (x.length+1)) (⟨#[c]⟩:PySem.Str).length).length<=sizeLine:=by
    have h2:=split_weight x ⟨#[c]⟩ (Nat.le_refl 1)
    unfold Txt.split at h2
    rw[if_neg (by rw[h1];decide),if_neg (by rw[hf];decide)] at h2
    lia
   refine call_meets F.slot_str_split (typeIs_str _ _ _) F.entry_str_split (F.args_str_split_2 _ _) (meets_str_split_sep x ⟨#[c]⟩ t u h1 hy hf Xn Ld) ?_
   show wants Q E _ { s with toks:=_,heap:=s.heap.push { cls:=.type "list",data:=.seq (strsFrom s.toks (partsBetween x (occurrences x ⟨#[c]⟩ 0 x.length (x.length+1)) (⟨#[c]⟩:PySem.Str).length)).toArray } }
   rw[strsFrom_eq]
   exact h (numbered s.toks _) _ ((numbered_texts _ _).trans ((if_neg (ne_true_of_eq_false h1)).trans (if_neg (ne_true_of_eq_false hf))).symm)
  ·exact call_meets F.slot_str_split (typeIs_str _ _ _) F.entry_str_split (F.args_str_split_2 _ _) (meets_str_split_not_found x ⟨#[c]⟩ t u h1 hy hf) (h [(x,t)] _ ((if_neg (ne_true_of_eq_false h1)).trans (if_pos hf)).symm)
 ·exact call_meets F.slot_str_split (typeIs_str _ _ _) F.entry_str_split (F.args_str_split_2 _ _) (meets_str_split_cannot_occur x ⟨#[c]⟩ t u h1) (h [(x,t)] _ (if_pos h1).symm)
theorem one_sign {y:PySem.Str}{c:Nat} (e:y.cps.toList=[c]):y=⟨#[c]⟩:=by
 obtain⟨cps⟩:=y
 congr 1
 exact Array.toList_inj.mp e
set_option tactic.hygienic true in
theorem HK (hX:nu X s.heap) {l:List Nat}{v:Value}{ds:List V}{vs:List Value} (r:Rep (seen X s.heap) (.str l) v) (rs:az (seen X s.heap) ds vs):Ev prog w base cl A X false (call (.builtin "str.split") (v::vs) []) s (bq .split (.str l::ds)):=by
 cases ds with
 | nil=>exact .stuck
 | cons d rest=>
  cases d<;>cases rest<;>try exact .stuck
  case str.cons m _ _=>cases m with
   | nil=>exact .stuck
   | cons c m=>cases m<;>exact .stuck
  rename_i m
  cases m with
  | nil=>exact .stuck
  | cons c m=>
   cases m with
   | cons _ _=>exact .stuck
   | nil=>
    refine Exists.elim (eA rs) fun u zz=>aC zz fun aw r1=>?_;clear zz;subst aw
    refine cH r fun y t e hl=>?_
    refine cH r1 fun z t2 e2 O=>?_
    obtain rfl:=one_sign e2
    show Ev prog w base cl A X false _ s (R.guard (decide (l.length<=lim)) (.ok (.list ((ai c l).map V.str))))
    refine Ev.guard fun hg=>?_
    simp only[decide_eq_true_eq] at hg
    have Sp:=str_len e
    intro Q E p _
    refine BP (by lia) fun ps tk O8=>?_
    have QG:(ps.map fun p=>p.1.cps.toList)=ai c l:=by
     rw[<- e,<- split_list,<- O8,List.map_map];rfl
    have Sq:∀ p∈ps,p.1.length<=16777216:=fun p hp=>by
     have:=part_short (x:=y) (y:=⟨#[c]⟩) (a:=p.1) (by rw[<- O8];exact List.mem_map_of_mem hp)
     lia
    have hR:az (seen X s.heap) ((ai c l).map V.str) (strValues ps):=by rw[<- QG];exact HJ ps Sq
    have Jv:(ai c l).length<=16777216:=by
     have:=split_weight y ⟨#[c]⟩ (Nat.le_refl 1)
     rw[<- O8] at this
     rw[<- QG,List.length_map]
     have j9:lim+1<=16777216:=by decide
     simp only[List.length_map] at this
     lia
    exact gF p (by simpa using Jv) hX (by simpa using hR) tk
theorem O9 {g:Addr->Obj->Prop}:∀ {xs:List V}{ys:List (List Nat)}{vs:List Value},strs? xs=some ys->az g xs vs->∃ l:List (PySem.Str × Tok),vs=strValues l/\(l.map fun p=>p.1.cps.toList)=ys:=by
 intro z0
 induction z0 with
 | nil=>
  intro ys vs h r
  skip;subst r;injection h with h;subst h;exact⟨[],rfl,rfl⟩
 | cons d xs ih=>
  intro ys vs h r
  refine bW r fun v r' zz=>b6 zz fun aw r1 r2=>?_;clear zz;try clear r;subst aw
  cases d<;>first | (contradiction;done) | skip
  rw[w7] at h
  cases q:strs? xs with
  | none=>rw[q] at h;contradiction
  | some zs=>
   rw[q] at h;injection h with h;subst h
   refine Exists.elim (ih q r2) fun l zz=>aC zz fun aw gS=>?_;clear zz;subst aw;subst gS
   refine cH r1 fun y t gS O=>?_;subst gS
   exact⟨(y,t)::l,rfl,rfl⟩
theorem Le (sep:PySem.Str):∀ (l:List PySem.Str) (k:Nat),l.foldl (·+·.length+sep.length) k=k+bx (l.map fun p=>p.cps.toList)+sep.length*l.length:=by
 intro z0
 induction z0 with
 | nil=>
  intro k
  simp[cM,aY]
 | cons p r ih=>
  intro k
  rw[List.foldl_cons,ih]
  simp only[List.map_cons,cM,aY,List.length_cons,Nat.mul_succ]
  have:p.length=p.cps.toList.length:=by simp[PySem.Str.length]
  lia
theorem oi (sep:List Nat):∀ (l:List (List Nat)),(bj sep l).length<=bx l+sep.length*l.length
 | []=>by simp[dg,ck,aV]
 | [p]=>by simp[dg,ck,aV,cM,aY]
 | p::q::r=>by
  have:=oi sep (q::r)
  simp only[dg,ck,aV,List.length_append,cM,aY,List.length_cons,Nat.mul_succ] at this ⊢
  lia
set_option tactic.hygienic true in
theorem Lf (hX:nu X s.heap) {l:List Nat}{v:Value}{ds:List V}{vs:List Value} (r:Rep (seen X s.heap) (.str l) v) (rs:az (seen X s.heap) ds vs):Ev prog w base cl A X false (call (.builtin "str.join") (v::vs) []) s (bq .join (.str l::ds)):=by
 cases ds with
 | nil=>exact .stuck
 | cons d rest=>
  cases d<;>cases rest<;>try exact .stuck
  rename_i xs
  refine Exists.elim (eA rs) fun u zz=>aC zz fun aw r1=>?_;clear zz;subst aw
  refine cH r fun y t e hl=>?_
  refine dR r1 fun a dd sl ws nn O ha hlen rl=>?_
  show Ev prog w base cl A X false _ s (match strs? xs with | some ys=>R.guard (decide (bx ys+l.length*ys.length<=lim)) (.ok (.str (bj l ys))) | none=>.stuck)
  cases q:strs? xs with
  | none=>exact .stuck
  | some ys=>
   refine Ev.guard fun hg=>?_
   simp only[decide_eq_true_eq] at hg
   refine Exists.elim (O9 q rl) fun ps zz=>aC zz fun O8 QH=>?_
   have Sp:=str_len e
   have j9:lim<=16777216:=by decide
   have Z8:ws=(strValues ps).toArray:=by rw[<- O8]
   subst Z8
   refine Ev.flat (fun O O O=>trivial) fun Q E hQ=>SC.join (bH ha) rfl ?_ fun t' k=>hQ _ _ (c9 _ ?_ ?_)
   ·unfold JoinOk
    rw[Bool.not_eq_true']
    unfold tooLong
    rw[List.foldl_toArray,Le]
    rw[List.map_map]
    have h1:(ps.map ((fun p:PySem.Str=>p.cps.toList)∘fun x=>x.1))=ys:=QH
    rw[h1]
    have h2:(ps.map (·.1)).length=ys.length:=by rw[<- QH];simp
    rw[h2,Sp]
    have:lim<=sizeLine:=by decide
    simp only[decide_eq_false_iff_not,gt_iff_lt,Nat.not_lt]
    lia
   ·show (glued y (ps.map (·.1))).cps.toList=_
    rw[StrLaws.glued_eq_join,join_list,List.map_map,e,<- QH];rfl
   ·have:=oi l ys;lia
set_option tactic.hygienic true in
theorem BQ {l:List Nat}{v:Value}{ds:List V}{vs:List Value} (r:Rep (seen X s.heap) (.str l) v) (rs:az (seen X s.heap) ds vs):Ev prog w base cl A X false (call (.builtin "str.lstrip") (v::vs) []) s (bq .lstrip (.str l::ds)):=by
 cases ds with
 | nil=>exact .stuck
 | cons d rest=>
  cases d<;>cases rest<;>try exact .stuck
  case str.cons m _ _=>cases m with
   | nil=>exact .stuck
   | cons c m=>cases m<;>exact .stuck
  rename_i m
  cases m with
  | nil=>exact .stuck
  | cons c m=>
   cases m with
   | cons _ _=>exact .stuck
   | nil=>
    refine Exists.elim (eA rs) fun u zz=>aC zz fun aw r1=>?_;clear zz;subst aw
    refine cH r fun y t e hl=>?_
    refine cH r1 fun z t2 e2 O=>?_
    obtain rfl:=one_sign e2
    have Sp:=str_len e
    show Ev prog w base cl A X false _ s (.ok (.str (l.dropWhile (· == c))))
    have hw:∀ l:List Nat,l.drop (l.takeWhile (· == c)).length=l.dropWhile (· == c):=fun l=>by
     induction l with
     | nil=>rfl
     | cons x r ih=>
      by_cases h:(x == c)=true
      ·simp[List.takeWhile_cons,List.dropWhile_cons,h,ih]
      ·simp[List.takeWhile_cons,List.dropWhile_cons,h]
    refine Ev.flat (fun O O O=>trivial) fun Q E hQ=>SC.lstripChars (fun t' k=>hQ _ _ (c9 _ ?_ ?_)) (by have:=bu;lia)
    ·show (Txt.stripBy (#[c]:Array Nat).contains true false y).cps.toList=_
     rw[PyProof.Rows.stripBy_eq]
     have hc:(#[c]:Array Nat).contains=fun x=>x == c:=by funext x;simp[Array.contains,Bool.beq_eq_decide_eq,eq_comm]
     have Wc:stripLo (#[c]:Array Nat).contains true y=(l.takeWhile (· == c)).length:=by
      unfold stripLo;rw[if_pos rfl,e,hc]
     rw[Wc]
     unfold strSub stripHi
     rw[if_neg (by decide)]
     show (y.cps.extract _ _).toList=_
     rw[Array.toList_extract,List.extract_eq_drop_take,e,hw]
     rw[List.take_of_length_le]
     have:=hw l
     rw[<- this,List.length_drop]
     lia
    ·have h1:=hw l
     have h2:(l.dropWhile (· == c)).length<=l.length:=by rw[<- h1,List.length_drop];lia
     lia
end
theorem ph (c x:Nat) (r:List Nat) (n:Nat):findAt [c] (x::r) n=if x=c then (n:Int) else findAt [c] r (n+1):=by
 rw[DQ]
 have:List.isPrefixOf [c] (x::r)=decide (x=c):=by
  simp[List.isPrefixOf,Bool.beq_eq_decide_eq,eq_comm]
 rw[this]
 by_cases h:x=c<;>simp[h]
theorem Lg (x y:PySem.Str) (hi:Nat):∀ (l:List Nat) (st:Array Nat × Nat),1<=st.fst.size->(forIn l st (StrLaws.occBody x y hi 1)).run.fst=st.fst:=by
 intro z0
 induction z0 with
 | nil=>
  exact fun st O=>rfl
 | cons a l ih=>
  intro st h
  rw[List.forIn_cons]
  unfold StrLaws.occBody
  rw[if_neg (by omega)]
  exact ih _ h
theorem occ_first (x:PySem.Str) (c:Nat):∀ (k i free:Nat),i+k=x.length+1->free<=i->
  (match (forIn (List.range' i k) ((#[]:Array Nat),free) (StrLaws.occBody x ⟨#[c]⟩ x.length 1)).run.fst.toList with | aaQ::_=>(aaQ:Int) | []=>-1)=findAt [c] (x.cps.toList.drop i) i:=by
 intro z0
 induction z0 with
 | zero=>
  intro i free h _
  rw[List.drop_eq_nil_of_le (by simp[PySem.Str.length] at h;simp;lia)]
  rfl
 | succ k ih=>
  intro i free h hf
  rw[List.range'_succ,List.forIn_cons]
  have Ba:=StrLaws.subAt_one x c i
  by_cases hi:i<x.length
  ·have Tf:i<x.cps.toList.length:=by simpa [PySem.Str.length] using hi
   rw[List.drop_eq_getElem_cons Tf,ph]
   unfold StrLaws.occBody
   by_cases hx:x.cps.toList[i]=c
   ·have h1:x.cps.toList[i]?=some c:=by rw[List.getElem?_eq_getElem Tf,hx]
    have h2:=Ba.mpr h1
    rw[if_pos hx,if_pos ⟨⟨⟨by simp,hf⟩,h2.1⟩,h2.2⟩]
    have:=Lg x ⟨#[c]⟩ x.length (List.range' (i+1) k) (#[i],i+(⟨#[c]⟩:PySem.Str).length) (by simp)
    show (match (forIn (List.range' (i+1) k) (#[i],i+(⟨#[c]⟩:PySem.Str).length) (StrLaws.occBody x ⟨#[c]⟩ x.length 1)).run.fst.toList with | aaQ::_=>(aaQ:Int) | []=>-1)=_
    rw[this]
   ·have h1:¬ x.cps.toList[i]?=some c:=by rw[List.getElem?_eq_getElem Tf];simpa using hx
    have h2:¬ (i+(⟨#[c]⟩:PySem.Str).length<=x.length/\subAt x ⟨#[c]⟩ i=true):=fun q=>h1 (Ba.mp q)
    rw[if_neg hx,if_neg fun q=>h2 ⟨q.1.2,q.2⟩]
    exact ih (i+1) free (by omega) (by omega)
  ·rw[List.drop_eq_nil_of_le (by simp[PySem.Str.length] at hi;simpa using hi)]
   unfold StrLaws.occBody
   have hl:(⟨#[c]⟩:PySem.Str).length=1:=rfl
   rw[if_neg (by rw[hl];omega)]
   have hk:k=0:=by omega
   subst hk
   rfl
theorem BR (x:PySem.Str) (c:Nat):(match occurrences x ⟨#[c]⟩ 0 x.length 1 with | i::_=>(i:Int) | []=>-1)=findAt [c] x.cps.toList 0:=by
 rw[StrLaws.occ_eq]
 exact occ_first x c (x.length+1) 0 0 (by lia) (by lia)
section
variable {prog:Program}{w:World}{base:Heap}{cl:dC->Value}{A:Around}{X:Addr->Prop}{s:Shared}
set_option tactic.hygienic true in
theorem Lh {l:List Nat}{v:Value}{ds:List V}{vs:List Value} (r:Rep (seen X s.heap) (.str l) v) (rs:az (seen X s.heap) ds vs):Ev prog w base cl A X false (call (.builtin "str.find") (v::vs) []) s (bq .find (.str l::ds)):=by
 cases ds with
 | nil=>exact .stuck
 | cons d rest=>
  cases d<;>cases rest<;>try exact .stuck
  case str.cons m _ _=>cases m with
   | nil=>exact .stuck
   | cons c m=>cases m<;>exact .stuck
  rename_i m
  cases m with
  | nil=>exact .stuck
  | cons c m=>
   cases m with
   | cons _ _=>exact .stuck
   | nil=>
    refine Exists.elim (eA rs) fun u zz=>aC zz fun aw r1=>?_;clear zz;subst aw
    refine cH r fun y t e hl=>?_
    refine cH r1 fun z t2 e2 O=>?_
    obtain rfl:=one_sign e2
    show Ev prog w base cl A X false _ s (.ok (.int (findAt [c] l 0)))
    refine Ev.flat (fun O O O=>trivial) fun Q E hQ=>call_gives F.slot_str_find (typeIs_str _ _ _) F.entry_str_find (F.args_str_find_2 _ _) (gives_str_find y ⟨#[c]⟩ t t2) ?_
    have:=BR y c
    rw[e] at this
    have goal:(Made.int (findAt [c] l 0)).post Q s:=hQ _ _ (bD _ _)
    rw[<- this] at goal
    exact goal
end
end
section
open PySem.Builtin
namespace FY
theorem dT:Slot "bytes" "isdigit" "bytes.isdigit":=
 .of (owner:="bytes") (n:="isdigit") (by rw[typeLookup_type,builtinLookup_eq_fast];kernel_rfl) (by decide +kernel) (by decide +kernel) (by decide +kernel)
  (by first | exact .inl (by decide +kernel) | exact .inr (by decide +kernel)) (by rw[isSubtype_type];kernel_rfl)
theorem kj:entryFor table "bytes.isdigit"=some Builtin.«bytes.isdigit»:=entryFor_of_tree (by kernel_rfl)
theorem jJ (a:Value):argsOk "bytes.isdigit" ⟨[a],[]⟩:=by
 unfold argsOk;rw[signature?_of (id:="bytes.isdigit") (n:=['t','i','g','i','d','s','i']) (o:=['s','e','t','y','b']) (by kernel_rfl) W.FB.owner_bytes];kernel_rfl
theorem eK:Slot "bytes" "lower" "bytes.lower":=
 .of (owner:="bytes") (n:="lower") (by rw[typeLookup_type,builtinLookup_eq_fast];kernel_rfl) (by decide +kernel) (by decide +kernel) (by decide +kernel)
  (by first | exact .inl (by decide +kernel) | exact .inr (by decide +kernel)) (by rw[isSubtype_type];kernel_rfl)
theorem mX:entryFor table "bytes.lower"=some Builtin.«bytes.lower»:=entryFor_of_tree (by kernel_rfl)
theorem lM (a:Value):argsOk "bytes.lower" ⟨[a],[]⟩:=by
 unfold argsOk;rw[signature?_of (id:="bytes.lower") (n:=['r','e','w','o','l']) (o:=['s','e','t','y','b']) (by kernel_rfl) W.FB.owner_bytes];kernel_rfl
theorem eL:Slot "bytes" "split" "bytes.split":=
 .of (owner:="bytes") (n:="split") (by rw[typeLookup_type,builtinLookup_eq_fast];kernel_rfl) (by decide +kernel) (by decide +kernel) (by decide +kernel)
  (by first | exact .inl (by decide +kernel) | exact .inr (by decide +kernel)) (by rw[isSubtype_type];kernel_rfl)
theorem mY:entryFor table "bytes.split"=some Builtin.«bytes.split»:=entryFor_of_tree (by kernel_rfl)
theorem lN (a b:Value):argsOk "bytes.split" ⟨[a,b],[]⟩:=by
 unfold argsOk;rw[signature?_of (id:="bytes.split") (n:=['t','i','l','p','s']) (o:=['s','e','t','y','b']) (by kernel_rfl) W.FB.owner_bytes];kernel_rfl
theorem fe:Slot "bytes" "find" "bytes.find":=
 .of (owner:="bytes") (n:="find") (by rw[typeLookup_type,builtinLookup_eq_fast];kernel_rfl) (by decide +kernel) (by decide +kernel) (by decide +kernel)
  (by first | exact .inl (by decide +kernel) | exact .inr (by decide +kernel)) (by rw[isSubtype_type];kernel_rfl)
theorem oj:entryFor table "bytes.find"=some Builtin.«bytes.find»:=entryFor_of_tree (by kernel_rfl)
theorem mZ (a b:Value):argsOk "bytes.find" ⟨[a,b],[]⟩:=by
 unfold argsOk;rw[signature?_of (id:="bytes.find") (n:=['d','n','i','f']) (o:=['s','e','t','y','b']) (by kernel_rfl) W.FB.owner_bytes];kernel_rfl
theorem eM:Slot "bytes" "rfind" "bytes.rfind":=
 .of (owner:="bytes") (n:="rfind") (by rw[typeLookup_type,builtinLookup_eq_fast];kernel_rfl) (by decide +kernel) (by decide +kernel) (by decide +kernel)
  (by first | exact .inl (by decide +kernel) | exact .inr (by decide +kernel)) (by rw[isSubtype_type];kernel_rfl)
theorem m3:entryFor table "bytes.rfind"=some Builtin.«bytes.rfind»:=entryFor_of_tree (by kernel_rfl)
theorem lO (a b:Value):argsOk "bytes.rfind" ⟨[a,b],[]⟩:=by
 unfold argsOk;rw[signature?_of (id:="bytes.rfind") (n:=['d','n','i','f','r']) (o:=['s','e','t','y','b']) (by kernel_rfl) W.FB.owner_bytes];kernel_rfl
theorem fh:Slot "bytes" "join" "bytes.join":=
 .of (owner:="bytes") (n:="join") (by rw[typeLookup_type,builtinLookup_eq_fast];kernel_rfl) (by decide +kernel) (by decide +kernel) (by decide +kernel)
  (by first | exact .inl (by decide +kernel) | exact .inr (by decide +kernel)) (by rw[isSubtype_type];kernel_rfl)
theorem om:entryFor table "bytes.join"=some Builtin.«bytes.join»:=entryFor_of_tree (by kernel_rfl)
theorem m4 (a b:Value):argsOk "bytes.join" ⟨[a,b],[]⟩:=by
 unfold argsOk;rw[signature?_of (id:="bytes.join") (n:=['n','i','o','j']) (o:=['s','e','t','y','b']) (by kernel_rfl) W.FB.owner_bytes];kernel_rfl
end FY
section
variable {prog:Program}{w:World}{base:Heap}{cl:dC->Value}{A:Around}{X:Addr->Prop}{s:Shared}{D:Fn->List V->R V}{n:Nat}{sc:Scope}{j:List (PySem.Str × Nat)}
theorem aM.bytes {fr:Bool}{x:List UInt8}{l:List Nat}{k:Nat}{pos:Pos} (e:x.map UInt8.toNat=l:=by rfl) (hl:l.length<=16777216:=by decide):aM prog w base cl D n fr sc j (.Constant (.bytes x) k pos) (.const (.bytes l)):=
 cst (fun O O O O O O hQ=>W.Constant_bytes (hQ _ _ (dH _ (by simpa using e) hl))) fun O O O O=>trivial
theorem HL (x:List UInt8):(Bytes.allOf Bytes.isDigit x)=(!(x.map UInt8.toNat).isEmpty&&(x.map UInt8.toNat).all aO):=by
 rw[List.all_map]
 have:(aO∘UInt8.toNat)=Bytes.isDigit:=by
  funext c
  rfl
 rw[this]
 cases x<;>rfl
theorem tu {l:List Nat}{v:Value}{ds:List V}{vs:List Value} (r:Rep (seen X s.heap) (.bytes l) v) (rs:az (seen X s.heap) ds vs):Ev prog w base cl A X false (call (.builtin "bytes.isdigit") (v::vs) []) s (bq .isdigit (.bytes l::ds)):=by
 cases ds with
 | cons d rest=>exact .stuck
 | nil=>
  skip;subst rs
  refine aU r fun y t e hl=>?_
  show Ev prog w base cl A X false _ s (.ok (.bool (!l.isEmpty&&l.all aO)))
  have g:Gives («bytes.isdigit» ⟨[.bytes y t],[]⟩) (.val (.bool (Bytes.allOf Bytes.isDigit y.toList))):=.of_eq rfl
  refine Ev.flat (fun O O O=>trivial) fun Q E hQ=>call_gives FY.dT (W.typeIs_bytes s y t) FY.kj (FY.jJ _) g ?_
  rw[HL,e]
  exact hQ _ _ (ew _)
theorem BU (c:UInt8):(Bytes.toLower c).toNat=kX c.toNat:=by
 unfold Bytes.toLower Bytes.isUpper kX
 have h:c.toNat<256:=c.toNat_lt
 by_cases q:65<=c.toNat/\c.toNat<=90
 ·rw[if_pos q,if_pos (by simp only[Bool.and_eq_true,decide_eq_true_eq,UInt8.le_iff_toNat_le];exact q)]
  rw[UInt8.toNat_add]
  show (c.toNat+32) % 256=_
  lia
 ·rw[if_neg q,if_neg (by simp only[Bool.and_eq_true,decide_eq_true_eq,UInt8.le_iff_toNat_le];exact q)]
theorem y0 {l:List Nat}{v:Value}{ds:List V}{vs:List Value} (r:Rep (seen X s.heap) (.bytes l) v) (rs:az (seen X s.heap) ds vs):Ev prog w base cl A X false (call (.builtin "bytes.lower") (v::vs) []) s (bq .lower (.bytes l::ds)):=by
 cases ds with
 | cons d rest=>exact .stuck
 | nil=>
  skip;subst rs
  refine aU r fun y t e hl=>?_
  show Ev prog w base cl A X false _ s (.ok (.bytes (l.map kX)))
  have hlen:=bf e
  refine Ev.flat (fun O O O=>trivial) fun Q E hQ=>wpAny_call_entry FY.eK (W.typeIs_bytes s y t) FY.mX ?_ (FY.lM _)
  show wpAny _ _ (mkBytes ((y.toList.map Bytes.toLower).toArray) >>= fun r=>ret r) _ _ s
  refine wpAny_bind (wpAny_mkBytes ?_ ?_)
  ·refine wpAny_pure ⟨_,rfl,hQ _ _ (dH _ ?_ (by simpa using hl))⟩
   simp only[List.map_map]
   rw[<- e,List.map_map]
   exact List.map_congr_left fun c O=>BU c
  ·have:=bu;simp;lia
end
theorem gq (n:Nat):Bytes.window n none none=(0,(n:Int)):=by
 unfold Bytes.window
 simp only[Option.getD_none]
 rw[if_neg (by lia),if_neg (by lia)]
 simp
noncomputable def fits (b sub:Array UInt8) (atEnd:Bool):Bool:=
 if (b.size:Int) - 0<(sub.size:Int) then false
 else if atEnd then b.extract ((b.size:Int).toNat - sub.size) (b.size:Int).toNat == sub
 else b.extract (0:Int).toNat ((0:Int).toNat+sub.size) == sub
theorem wy (b p:Array UInt8) (t u:Tok):Meets («bytes.startswith» ⟨[.bytes b t,.bytes p u],[]⟩) (fun O R s=>R (.ok (.ret (.bool (fits b p false)))) s):=
 .of_wp fun prog w A R s h=>by
  unfold «bytes.startswith» Bytes.tailMatchM
  refine wpAny_bind (wpAny_of_eq (a:=(Value.bytes b t,[Value.bytes p u])) rfl ?_)
  refine wpAny_bind (wpAny_of_eq (a:=none) rfl ?_)
  refine wpAny_bind (wpAny_of_eq (a:=none) rfl ?_)
  refine wpAny_bind (wpAny_of_eq (a:=b) rfl ?_)
  rw[gq]
  refine wpAny_bind (wpAny_isInstance (T:="bytes") (b:=false) (typeIs_bytes s p u) F.sub_bytes_tuple ?_)
  rw[if_neg (by decide)]
  refine wpAny_bind (wpAny_of_eq KBy.buffer_eq ?_)
  exact wpAny_pure ⟨_,rfl,h⟩
theorem BV (b p:Array UInt8) (t u:Tok):Meets («bytes.endswith» ⟨[.bytes b t,.bytes p u],[]⟩) (fun O R s=>R (.ok (.ret (.bool (fits b p true)))) s):=
 .of_wp fun prog w A R s h=>by
  unfold «bytes.endswith» Bytes.tailMatchM
  refine wpAny_bind (wpAny_of_eq (a:=(Value.bytes b t,[Value.bytes p u])) rfl ?_)
  refine wpAny_bind (wpAny_of_eq (a:=none) rfl ?_)
  refine wpAny_bind (wpAny_of_eq (a:=none) rfl ?_)
  refine wpAny_bind (wpAny_of_eq (a:=b) rfl ?_)
  rw[gq]
  refine wpAny_bind (wpAny_isInstance (T:="bytes") (b:=false) (typeIs_bytes s p u) F.sub_bytes_tuple ?_)
  rw[if_neg (by decide)]
  refine wpAny_bind (wpAny_of_eq KBy.buffer_eq ?_)
  exact wpAny_pure ⟨_,rfl,h⟩
theorem pj (a b:List UInt8):(a == b)=decide (a.map UInt8.toNat=b.map UInt8.toNat):=by
 rw[gn]
 congr 1
 apply propext
 constructor
 ·intro h;rw[h]
 ·intro h
  exact (List.map_inj_right fun x y e=>UInt8.toNat_inj.mp e).mp h
theorem Dy (a b:Array UInt8):(a == b)=(a.toList == b.toList):=by
 rw[gn,gn]
 congr 1
 exact propext ⟨fun h=>by rw[h],fun h=>Array.toList_inj.mp h⟩
theorem y2 {b p:Array UInt8}{l m:List Nat} (e:b.toList.map UInt8.toNat=l) (f:p.toList.map UInt8.toNat=m):fits b p false=m.isPrefixOf l:=by
 have h1:=bf e
 have h2:=bf f
 unfold fits
 rw[Bool.eq_iff_iff,List.isPrefixOf_iff_prefix,List.prefix_iff_eq_take]
 by_cases q:(b.size:Int) - 0<p.size
 ·rw[if_pos q]
  constructor
  ·intro z;contradiction
  ·intro z
   have:=congrArg List.length z
   simp at this;lia
 ·rw[if_neg q,if_neg (by decide),Dy,pj,decide_eq_true_eq]
  have:(b.extract (0:Int).toNat ((0:Int).toNat+p.size)).toList.map UInt8.toNat=l.take m.length:=by
   rw[Array.toList_extract,List.extract_eq_drop_take,<- e,<- h2]
   simp[List.map_take]
  rw[this,f]
  exact eq_comm
theorem HM {b p:Array UInt8}{l m:List Nat} (e:b.toList.map UInt8.toNat=l) (f:p.toList.map UInt8.toNat=m):fits b p true=m.isSuffixOf l:=by
 have h1:=bf e
 have h2:=bf f
 unfold fits
 rw[Bool.eq_iff_iff,List.isSuffixOf_iff_suffix,List.suffix_iff_eq_drop]
 by_cases q:(b.size:Int) - 0<p.size
 ·rw[if_pos q]
  constructor
  ·intro z;contradiction
  ·intro z
   have:=congrArg List.length z
   simp at this;omega
 ·rw[if_neg q,if_pos rfl,Dy,pj,decide_eq_true_eq]
  have:(b.extract ((b.size:Int).toNat - p.size) (b.size:Int).toNat).toList.map UInt8.toNat=l.drop (l.length - m.length):=by
   rw[Array.toList_extract,List.extract_eq_drop_take,<- e,<- h2]
   simp only[Int.toNat_natCast,List.length_map,Array.length_toList]
   rw[List.take_of_length_le (by simp),List.map_drop]
  rw[this,f]
  exact eq_comm
theorem wz (c:Nat):∀ (l:List Nat) (k:Nat),findAt [c] l k=match (List.range l.length).find? (fun i=>decide (l[i]?=some c)) with | some i=>((i+k:Nat):Int) | none=>-1:=by
 intro z0
 induction z0 with
 | nil=>
  exact fun k=>rfl
 | cons x r ih=>
  intro k
  rw[ph,List.length_cons,List.range_succ_eq_map,List.find?_cons]
  by_cases h:x=c
  ·simp[h]
  ·have:decide ((x::r)[0]?=some c)=false:=by simpa using h
   rw[if_neg h,this,List.find?_map,ih (k+1)]
   have e:((fun i=>decide ((x::r)[i]?=some c))∘Nat.succ)=fun i=>decide (r[i]?=some c):=by funext i;simp
   rw[e]
   cases (List.range r.length).find? (fun i=>decide (r[i]?=some c)) with
   | none=>rfl
   | some i=>show (((i:Nat)+(k+1):Nat):Int)=((i.succ+k:Nat):Int);congr 1;omega
theorem wA (c:Nat):∀ (l:List Nat) (k:Nat) (best:Int),ik c l k best=match (List.range l.length).reverse.find? (fun i=>decide (l[i]?=some c)) with | some i=>((i+k:Nat):Int) | none=>best:=by
 intro z0
 induction z0 with
 | nil=>
  exact fun k best=>rfl
 | cons x r ih=>
  intro k best
  rw[tH,List.length_cons,List.range_succ_eq_map,List.reverse_cons,<- List.map_reverse,List.find?_append,List.find?_map,ih (k+1)]
  have e:((fun i=>decide ((x::r)[i]?=some c))∘Nat.succ)=fun i=>decide (r[i]?=some c):=by funext i;simp
  rw[e]
  cases (List.range r.length).reverse.find? (fun i=>decide (r[i]?=some c)) with
  | none=>
   by_cases h:x=c
   ·simp[h]
   ·simp[h]
  | some i=>show (((i:Nat)+(k+1):Nat):Int)=((i.succ+k:Nat):Int);congr 1;omega
theorem oq (b:Array UInt8) (k:UInt8) (l:List Nat) (e:b.toList.map UInt8.toNat=l):(fun i=>b.extract i (i+1) == #[k])=fun i=>decide (l[i]?=some k.toNat):=by
 funext i
 rw[jB]
 congr 1
 apply propext
 rw[<- e,List.getElem?_map,<- Array.getElem?_toList]
 cases b.toList[i]? with
 | none=>simp
 | some z=>simp[UInt8.toNat_inj]
theorem y3 {b:Array UInt8}{k:UInt8}{l:List Nat} (e:b.toList.map UInt8.toNat=l) :
  ((if (b.size:Int) - 0<((#[k]:Array UInt8).size:Int) then none else some ((0:Int).toNat,(b.size:Int).toNat)):Option (Nat × Nat)).bind (fun x=>Bytes.find? b #[k] x.1 x.2)=(List.range l.length).find? (fun i=>decide (l[i]?=some k.toNat)):=by
 have hl:=bf e
 by_cases q:(b.size:Int) - 0<((#[k]:Array UInt8).size:Int)
 ·rw[if_pos q]
  have h0:l.length=0:=by
   have:((#[k]:Array UInt8).size:Int)=1:=rfl
   lia
  rw[h0];rfl
 ·rw[if_neg q]
  show Bytes.find? b #[k] 0 b.size=_
  unfold Bytes.find?
  have e1:(List.range (b.size+1 - (0+(#[k]:Array UInt8).size))).map (·+0)=List.range l.length:=by
   rw[show (#[k]:Array UInt8).size=1 from rfl,show b.size+1 - (0+1)=l.length by lia];simp
  rw[e1]
  exact congrArg (List.find? · (List.range l.length)) (oq b k l e)
theorem BW {b:Array UInt8}{k:UInt8}{l:List Nat} (e:b.toList.map UInt8.toNat=l) :
  ((if (b.size:Int) - 0<((#[k]:Array UInt8).size:Int) then none else some ((0:Int).toNat,(b.size:Int).toNat)):Option (Nat × Nat)).bind (fun x=>Bytes.rfind? b #[k] x.1 x.2)=(List.range l.length).reverse.find? (fun i=>decide (l[i]?=some k.toNat)):=by
 have hl:=bf e
 by_cases q:(b.size:Int) - 0<((#[k]:Array UInt8).size:Int)
 ·rw[if_pos q]
  have h0:l.length=0:=by
   have:((#[k]:Array UInt8).size:Int)=1:=rfl
   lia
  rw[h0];rfl
 ·rw[if_neg q]
  show Bytes.rfind? b #[k] 0 b.size=_
  unfold Bytes.rfind?
  have e1:(List.range (b.size+1 - (0+(#[k]:Array UInt8).size))).map (·+0)=List.range l.length:=by
   rw[show (#[k]:Array UInt8).size=1 from rfl,show b.size+1 - (0+1)=l.length by lia];simp
  rw[e1]
  exact congrArg (List.find? · (List.range l.length).reverse) (oq b k l e)
theorem BX (b:Array UInt8) (k:UInt8) (t u:Tok) (l:List Nat) (e:b.toList.map UInt8.toNat=l):Meets («bytes.find» ⟨[.bytes b t,.bytes #[k] u],[]⟩) (fun O R s=>R (.ok (.ret (.int (findAt [k.toNat] l 0) s.toks))) { s with toks:=s.toks+1 }):=
 .of_wp fun prog w A R s h=>by
  unfold «bytes.find» Bytes.searchM Bytes.searchArgs
  refine wpAny_bind ?_
  refine wpAny_bind (wpAny_of_eq (a:=(Value.bytes b t,[Value.bytes #[k] u])) rfl ?_)
  dsimp only
  refine wpAny_bind (wpAny_of_eq (a:=none) rfl ?_)
  refine wpAny_bind (wpAny_of_eq (a:=none) rfl ?_)
  refine wpAny_bind (wpAny_of_eq KBy.buffer_eq ?_)
  refine wpAny_bind (wpAny_of_eq (a:=#[k]) rfl ?_)
  refine wpAny_bind (wpAny_of_eq (a:=b) rfl ?_)
  rw[gq]
  refine wpAny_pure ?_
  have hs:=y3 (k:=k) e
  rw[wz] at h
  generalize hg:Option.bind _ _=o
  have ho:o=(List.range l.length).find? (fun i=>decide (l[i]?=some k.toNat)):=hg.symm.trans hs
  rw[<- ho] at h
  cases o with
  | some i=>exact wpAny_bind (wpAny_mkInt (wpAny_pure ⟨_,rfl,h⟩))
  | none=>exact wpAny_bind (wpAny_rule (wpAny_bind (wpAny_mkInt (wpAny_pure ⟨_,rfl,h⟩))))
theorem y4 (b:Array UInt8) (k:UInt8) (t u:Tok) (l:List Nat) (e:b.toList.map UInt8.toNat=l):Meets («bytes.rfind» ⟨[.bytes b t,.bytes #[k] u],[]⟩) (fun O R s=>R (.ok (.ret (.int (ik k.toNat l 0 (-1)) s.toks))) { s with toks:=s.toks+1 }):=
 .of_wp fun prog w A R s h=>by
  unfold «bytes.rfind» Bytes.searchM Bytes.searchArgs
  refine wpAny_bind ?_
  refine wpAny_bind (wpAny_of_eq (a:=(Value.bytes b t,[Value.bytes #[k] u])) rfl ?_)
  dsimp only
  refine wpAny_bind (wpAny_of_eq (a:=none) rfl ?_)
  refine wpAny_bind (wpAny_of_eq (a:=none) rfl ?_)
  refine wpAny_bind (wpAny_of_eq KBy.buffer_eq ?_)
  refine wpAny_bind (wpAny_of_eq (a:=#[k]) rfl ?_)
  refine wpAny_bind (wpAny_of_eq (a:=b) rfl ?_)
  rw[gq]
  refine wpAny_pure ?_
  have hs:=BW (k:=k) e
  rw[wA] at h
  generalize hg:Option.bind _ _=o
  have ho:o=(List.range l.length).reverse.find? (fun i=>decide (l[i]?=some k.toNat)):=hg.symm.trans hs
  rw[<- ho] at h
  cases o with
  | some i=>exact wpAny_bind (wpAny_mkInt (wpAny_pure ⟨_,rfl,h⟩))
  | none=>exact wpAny_bind (wpAny_rule (wpAny_bind (wpAny_mkInt (wpAny_pure ⟨_,rfl,h⟩))))
section
variable {prog:Program}{w:World}{base:Heap}{cl:dC->Value}{A:Around}{X:Addr->Prop}{s:Shared}
set_option tactic.hygienic true in
theorem ot {l:List Nat}{v:Value}{ds:List V}{vs:List Value} (r:Rep (seen X s.heap) (.bytes l) v) (rs:az (seen X s.heap) ds vs):Ev prog w base cl A X false (call (.builtin "bytes.startswith") (v::vs) []) s (bq .startswith (.bytes l::ds)):=by
 cases ds with
 | nil=>exact .stuck
 | cons d rest=>
  cases d<;>cases rest<;>try exact .stuck
  rename_i m
  refine Exists.elim (eA rs) fun u zz=>aC zz fun aw r1=>?_;clear zz;subst aw
  refine aU r fun y t e hl=>?_
  refine aU r1 fun z t2 e2 O=>?_
  show Ev prog w base cl A X false _ s (.ok (.bool (m.isPrefixOf l)))
  refine Ev.flat (fun O O O=>trivial) fun Q E hQ=>call_meets FB.slot_bytes_startswith (W.typeIs_bytes s y t) FB.entry_bytes_startswith (FB.args_bytes_startswith_2 _ _) (wy y z t t2) ?_
  rw[y2 e e2]
  exact hQ _ s.toks (ew _)
set_option tactic.hygienic true in
theorem sr {l:List Nat}{v:Value}{ds:List V}{vs:List Value} (r:Rep (seen X s.heap) (.bytes l) v) (rs:az (seen X s.heap) ds vs):Ev prog w base cl A X false (call (.builtin "bytes.endswith") (v::vs) []) s (bq .endswith (.bytes l::ds)):=by
 cases ds with
 | nil=>exact .stuck
 | cons d rest=>
  cases d<;>cases rest<;>try exact .stuck
  rename_i m
  refine Exists.elim (eA rs) fun u zz=>aC zz fun aw r1=>?_;clear zz;subst aw
  refine aU r fun y t e hl=>?_
  refine aU r1 fun z t2 e2 O=>?_
  show Ev prog w base cl A X false _ s (.ok (.bool (m.isSuffixOf l)))
  refine Ev.flat (fun O O O=>trivial) fun Q E hQ=>call_meets FB.slot_bytes_endswith (W.typeIs_bytes s y t) FB.entry_bytes_endswith (FB.args_bytes_endswith_2 _ _) (BV y z t t2) ?_
  rw[HM e e2]
  exact hQ _ s.toks (ew _)
set_option tactic.hygienic true in
theorem BZ {l:List Nat}{v:Value}{ds:List V}{vs:List Value} (r:Rep (seen X s.heap) (.bytes l) v) (rs:az (seen X s.heap) ds vs):Ev prog w base cl A X false (call (.builtin "bytes.find") (v::vs) []) s (bq .find (.bytes l::ds)):=by
 cases ds with
 | nil=>exact .stuck
 | cons d rest=>
  cases d<;>cases rest<;>try exact .stuck
  case bytes.cons m _ _=>cases m with
   | nil=>exact .stuck
   | cons c m=>cases m<;>exact .stuck
  rename_i m
  cases m with
  | nil=>exact .stuck
  | cons c m=>
   cases m with
   | cons _ _=>exact .stuck
   | nil=>
    refine Exists.elim (eA rs) fun u zz=>aC zz fun aw r1=>?_;clear zz;subst aw
    refine aU r fun y t e hl=>?_
    refine aU r1 fun z t2 e2 O=>?_
    refine Exists.elim (mO e2) fun k zz=>aC zz fun aw gS=>?_;clear zz;subst aw;subst gS
    show Ev prog w base cl A X false _ s (.ok (.int (findAt [k.toNat] l 0)))
    exact Ev.flat (fun O O O=>trivial) fun Q E hQ=>call_meets FY.fe (W.typeIs_bytes s y t) FY.oj (FY.mZ _ _) (BX y k t t2 l e) (hQ _ _ (bD _ _))
set_option tactic.hygienic true in
theorem y5 {l:List Nat}{v:Value}{ds:List V}{vs:List Value} (r:Rep (seen X s.heap) (.bytes l) v) (rs:az (seen X s.heap) ds vs):Ev prog w base cl A X false (call (.builtin "bytes.rfind") (v::vs) []) s (bq .rfind (.bytes l::ds)):=by
 cases ds with
 | nil=>exact .stuck
 | cons d rest=>
  cases d<;>cases rest<;>try exact .stuck
  case bytes.cons m _ _=>cases m with
   | nil=>exact .stuck
   | cons c m=>cases m<;>exact .stuck
  rename_i m
  cases m with
  | nil=>exact .stuck
  | cons c m=>
   cases m with
   | cons _ _=>exact .stuck
   | nil=>
    refine Exists.elim (eA rs) fun u zz=>aC zz fun aw r1=>?_;clear zz;subst aw
    refine aU r fun y t e hl=>?_
    refine aU r1 fun z t2 e2 O=>?_
    refine Exists.elim (mO e2) fun k zz=>aC zz fun aw gS=>?_;clear zz;subst aw;subst gS
    show Ev prog w base cl A X false _ s (.ok (.int (ik k.toNat l 0 (-1))))
    exact Ev.flat (fun O O O=>trivial) fun Q E hQ=>call_meets FY.eM (W.typeIs_bytes s y t) FY.m3 (FY.lO _ _) (y4 y k t t2 l e) (hQ _ _ (bD _ _))
end
theorem y6 {j:Type}{f:Nat->j->Sem (ForInStep j)} (P:Nat->j->Prop) (next:j->j) (h:∀ i k s,P (k+1) s->f i s=pure (.yield (next s))/\P k (next s)):∀ (l:List Nat) (s:j),P l.length s->∃ s',forIn l s f=(pure s':Sem j)/\P 0 s':=by
 intro z0
 induction z0 with
 | nil=>
  exact fun s hp=>⟨s,rfl,hp⟩
 | cons a l ih=>
  intro s hp
  refine aC (h a l.length s hp) fun h1 h2=>?_
  refine Exists.elim (ih (next s) h2) fun s' zz=>aC zz fun e q=>?_
  exact⟨s',by rw[List.forIn_cons,h1];exact e,q⟩
theorem B1 {j β:Type}{f:Nat->j->Sem (ForInStep j)}{g:j->Sem β}{n:Nat}{s:j}{r:β} (P:Nat->j->Prop) (next:j->j) (h0:P n s) (h:∀ i k s,P (k+1) s->f i s=pure (.yield (next s))/\P k (next s)) (hg:∀ s',P 0 s'->g s'=pure r) :
  (forIn [:n] s f >>= g)=pure r:=by
 rw[Std.Legacy.Range.forIn_eq_forIn_range']
 have he:(List.range' [:n].start [:n].size [:n].step).length=n:=by rw[List.length_range'];simp[Std.Legacy.Range.size]
 refine Exists.elim (y6 P next h _ s (he.symm ▸ h0)) fun s' zz=>aC zz fun e q=>?_
 rw[e]
 exact hg s' q
theorem Li (id:String) (b:Array UInt8) (ka:b.size<=sizeLine) (hb:∀ (i:Nat) (c:UInt8),b[i]?=some c->c.toNat<128):_codecs.runDecoder id _codecs.utf8Decoder none true b 0 []=pure (b.map UInt8.toNat,b.size):=by
 refine B1 (fun k s=>s.1+k=b.size/\s.2.1=(b.extract 0 s.1).map UInt8.toNat) (fun s=>(s.1+1,s.2.1++[(b.getD s.1 0).toNat].toArray,s.2.2)) ⟨Nat.zero_add _,by simp⟩ (fun i k st hp=>?_) fun st hp=>?_
 ·obtain⟨p,out,fl⟩:=st
  obtain⟨h1,h2⟩:=hp
  dsimp only at h1 h2 ⊢
  have hV:p<b.size:=by lia
  have Z9:out.size=p:=by rw[h2];simp;lia
  have Vr:b[p]?=some b[p]:=Array.getElem?_eq_getElem hV
  have hg:b.getD p 0=b[p]:=by simp[Array.getD,hV]
  have hc:(b.getD p 0).toNat<128:=by rw[hg];exact hb p _ Vr
  have Vs:_codecs.utf8Decoder.find true b p=.text [(b.getD p 0).toNat] (p+1):=by
   unfold _codecs.utf8Decoder
   dsimp only
   have:Bytes.utf8At b p=(.char (b.getD p 0).toNat,p+1):=by
    unfold Bytes.utf8At
    dsimp only
    rw[if_pos (show (b.getD p 0).toNat<0x80 from hc)]
   rw[this];rfl
  refine⟨?_,by lia,?_⟩
  ·rw[if_neg (by lia),if_neg (by lia),Vs]
  ·rw[h2,hg]
   apply Array.toList_inj.mp
   simp only[Array.toList_append,Array.toList_map,Array.toList_extract,List.extract_eq_drop_take,List.drop_zero,Nat.sub_zero]
   rw[List.take_succ,List.map_append]
   congr 1
   rw[show b.toList[p]?=some b[p] by rw[Array.getElem?_toList];exact Vr]
   rfl
 ·obtain⟨p,out,fl⟩:=st
  obtain⟨h1,h2⟩:=hp
  dsimp only at h1 h2 ⊢
  have:p=b.size:=by lia
  subst this
  rw[h2,Array.extract_size]
theorem fold_map (f:Nat->List UInt8) (g:Nat->UInt8):∀ (l:List Nat),(∀ c∈l,f c=[g c])->∀ acc:Array UInt8,l.foldl (fun acc y=>acc++(f y).toArray) acc=acc++(l.map g).toArray:=by
 intro z0
 induction z0 with
 | nil=>
  intro _ acc
  simp
 | cons c r ih=>
  intro h acc
  rw[List.foldl_cons,ih (fun z hz=>h z (.tail _ hz)),h c (.head _)]
  simp
theorem B2 {j β:Type}{f:Nat->j->Sem (ForInStep j)}{g:j->Sem β}{n:Nat}{s s₁:j}{r:β} (h1:∀ i,f i s=pure (.yield s₁)) (h2:∀ i,f i s₁=pure (.done s₁)) (hl:n≠0) (hg:g s₁=pure r):(forIn [:n] s f >>= g)=pure r:=by
 have e:forIn [:n] s f=pure s₁:=by
  rw[Std.Legacy.Range.forIn_eq_forIn_range']
  cases hq:List.range' [:n].start [:n].size [:n].step with
  | nil=>have:=congrArg List.length hq;rw[List.length_range'] at this;exact absurd (by simpa [Std.Legacy.Range.size] using this) hl
  | cons a l=>
   rw[List.forIn_cons,h1]
   cases l with
   | nil=>rfl
   | cons b l=>
    show (forIn (b::l) s₁ f:Sem j)=_
    rw[List.forIn_cons,h2];rfl
 rw[e];exact hg
theorem forIn_none {j β:Type}{f:Nat->j->Sem (ForInStep j)}{g:j->Sem β}{s:j}{r:β} (hg:g s=pure r):(forIn [:0] s f >>= g)=pure r:=by
 rw[Std.Legacy.Range.forIn_eq_forIn_range']
 exact hg
theorem Lj (id:String) (self:Value) (x:PySem.Str) (ka:x.length<=sizeLine) (hb:∀ c∈x.cps.toList,c<128):_codecs.encodeNarrow id _codecs.utf8Codec none self x=pure (x.cps.map fun c=>c.toUInt8):=by
 have vR:∀ c∈x.cps.toList,_codecs.utf8Codec.bad c=false:=fun c hc=>by
  have:=hb c hc
  show PySem.Str.isSurrogate c=false
  unfold PySem.Str.isSurrogate
  simp;lia
 have Sr:∀ c∈x.cps.toList,_codecs.utf8Codec.bytesOf c=[c.toUInt8]:=fun c hc=>by
  have:=hb c hc
  show PySem.Str.utf8Of c=_
  unfold PySem.Str.utf8Of
  simp[this]
 have Vt:x.cps.foldl (fun acc y=>acc++(_codecs.utf8Codec.bytesOf y).toArray) #[]=x.cps.map fun c=>c.toUInt8:=by
  rw[<- Array.foldl_toList,fold_map _ _ _ Sr]
  apply Array.toList_inj.mp
  simp
 have hnone:Array.findIdx? _codecs.utf8Codec.bad x.cps=none:=by
  rw[Array.findIdx?_eq_none_iff]
  intro c hc
  exact vR c (Array.mem_toList_iff.mpr hc)
 by_cases h0:x.cps.size=0
 ·have h1:x.cps=#[]:=Array.size_eq_zero_iff.mp h0
  obtain⟨cp⟩:=x
  obtain rfl:cp=#[]:=h1
  exact forIn_none (congrArg pure (Array.map_empty (f:=fun c:Nat=>c.toUInt8)).symm)
 ·obtain⟨c,hc⟩:∃ c,x.cps[0]?=some c:=⟨_,Array.getElem?_eq_getElem (by lia)⟩
  have hcm:c∈x.cps.toList:=Array.mem_toList_iff.mpr (Array.mem_of_getElem? hc)
  refine B2 (s₁:=(x.cps.size,x.cps.map fun c=>c.toUInt8,{})) (fun i=>?_) (fun i=>?_) ?_ rfl
  ·dsimp only
   rw[if_neg (by simp),hc]
   dsimp only
   rw[vR c hcm,if_pos (show (!false)=true from rfl)]
   have e1:x.cps.extract 0=x.cps:=by simp
   rw[e1,hnone]
   rw[Option.getD_none,Nat.zero_add]
   have e2:x.cps.extract 0 x.cps.size=x.cps:=by simp
   rw[e2,Vt]
  ·dsimp only
   have:¬ (x.cps.map fun c=>c.toUInt8).size > sizeLine:=by
    rw[Array.size_map];exact Nat.not_lt.mpr ka
   rw[if_neg this,Array.getElem?_eq_none (Nat.le_refl _)]
  ·exact h0
section
variable {prog:Program}{w:World}{base:Heap}{cl:dC->Value}{A:Around}{X:Addr->Prop}{s:Shared}
theorem B3 {l:List Nat}{v:Value}{ds:List V}{vs:List Value} (r:Rep (seen X s.heap) (.str l) v) (rs:az (seen X s.heap) ds vs):Ev prog w base cl A X false (call (.builtin "str.encode") (v::vs) []) s (bq .encode (.str l::ds)):=by
 cases ds with
 | cons d rest=>exact .stuck
 | nil=>
  skip;subst rs
  refine cH r fun y t e hl=>?_
  show Ev prog w base cl A X false _ s (R.guard (ascii l) (.ok (.bytes l)))
  refine Ev.guard fun hg=>?_
  have ha:∀ c∈y.cps.toList,c<128:=fun c hc=>by
   rw[e] at hc
   have:=List.all_eq_true.mp hg c hc
   simpa using this
  have Sp:=str_len e
  have hline:=bu
  refine Ev.flat (fun O O O=>trivial) fun Q E hQ=>wpAny_call_entry F.slot_str_encode (typeIs_str s y t) F.entry_str_encode ?_ (F.args_str_encode_1 _)
  rw[encode_tree,encodeRoad_utf8,Lj _ _ _ (by lia) ha]
  refine wpAny_bind (wpAny_bind (wpAny_pure (wpAny_mkBytes ?_ ?_)))
  ·refine wpAny_pure ⟨_,rfl,hQ _ _ (dH _ ?_ hl)⟩
   rw[Array.toList_map,List.map_map,<- e]
   refine (List.map_congr_left fun c hc=>?_).trans (List.map_id _)
   have:=ha c hc
   show (c.toUInt8).toNat=c
   rw[Nat.toUInt8_eq,UInt8.toNat_ofNat']
   lia
  ·rw[Array.size_map];show y.length<=_;lia
theorem wB {l:List Nat}{v:Value}{ds:List V}{vs:List Value} (r:Rep (seen X s.heap) (.bytes l) v) (rs:az (seen X s.heap) ds vs):Ev prog w base cl A X false (call (.builtin "bytes.decode") (v::vs) []) s (bq .decode (.bytes l::ds)):=by
 cases ds with
 | cons d rest=>exact .stuck
 | nil=>
  skip;subst rs
  refine aU r fun y t e hl=>?_
  show Ev prog w base cl A X false _ s (R.guard (!l.isEmpty&&ascii l) (.ok (.str l)))
  refine Ev.guard fun hg=>?_
  simp only[Bool.and_eq_true,Bool.not_eq_true',List.isEmpty_eq_false_iff] at hg
  refine aC hg fun ne ha=>?_
  obtain⟨yl⟩:=y
  cases yl with
  | nil=>exact absurd e.symm (by simpa using ne)
  | cons c cs=>
   have hb:∀ (i:Nat) (z:UInt8),(c::cs).toArray[i]?=some z->z.toNat<128:=fun i z hz=>by
    have hm:z∈(c::cs):=by
     rw[List.getElem?_toArray] at hz
     exact List.mem_of_getElem? hz
    have:z.toNat∈l:=by rw[<- e];exact List.mem_map_of_mem hm
    have:=List.all_eq_true.mp ha _ this
    simpa using this
   have hlen:(c::cs).toArray.size=l.length:=bf e
   have hline:=bu
   refine Ev.flat (fun O O O=>trivial) fun Q E hQ=>KBd.decode (x:=⟨(c::cs).toArray.map UInt8.toNat⟩) (n:=(c::cs).toArray.size) (fun id=>Li id _ (by lia) hb) (by show ((c::cs).toArray.map UInt8.toNat).size<=_;rw[Array.size_map];lia) fun t' k=>hQ _ _ (c9 _ ?_ hl)
   rw[<- e]
   show ((c::cs).toArray.map UInt8.toNat).toList=_
   rw[Array.toList_map]
end
section
variable {prog:Program}{w:World}{base:Heap}{cl:dC->Value}{A:Around}{X:Addr->Prop}{s:Shared}{D:Fn->List V->R V}{n:Nat}{sc:Scope}{j:List (PySem.Str × Nat)}{K:Frag}
theorem B4 {f1:Bool}{np bp pos:Pos}{e:Expr}{p:PE} (W:Wd K base) (hk:sc.names.lookup (Str.ofString "isinstance")=some .globalImplicit) (hg:nsIn K mainGlobals (Str.ofString "isinstance")=some none) (hb:bootBuiltins (Str.ofString "isinstance")=some (.builtin "isinstance"))
  (hk2:sc.names.lookup (Str.ofString "bytes")=some .globalImplicit) (Xo:nsIn K mainGlobals (Str.ofString "bytes")=some none) (hb2:bootBuiltins (Str.ofString "bytes")=some (.type "bytes"))
  (h:aM prog w base cl D n f1 sc j e p) (hs:notStar e=true:=by rfl):aM prog w base cl D n false sc j (.Call (.Name (Str.ofString "isinstance") np) [e,.Name (Str.ofString "bytes") bp] [] pos) (.prim .isBytes (.cons p .nil)):=fun A X ec J s a Q E po au=>by
 have e0:ao D (.prim .isBytes (.cons p .nil)) J=(ao D p J).bind fun d=>bq .isBytes [d]:=by
  rw[Mt,p5,CL];cases ao D p J<;>rfl
 rw[e0] at po au
 refine dA (ag (cJ W a.cx.stays a.ge a.scope hk hg hb ?_ (by decide) (by decide)))
 have gh:starEach [e,.Name (Str.ofString "bytes") bp] ec=[(false,eval e ec),(false,eval (.Name (Str.ofString "bytes") bp) ec)]:=aS hs
 rw[gh]
 refine cu rfl (c6 (cS (h A X ec J s a _ _ ⟨fun d v aj tk e₁ k rp O=>?_,po.ex.of⟩ (R.aN au))))
 have cL:=po.step (tk:=tk) e₁ k
 have aq:=R.aZ au e₁
 have a₁:=a.kept k
 refine cS (ag (cJ (s:={ s with heap:=aj,toks:=tk }) W a₁.cx.stays a₁.ge a₁.scope hk2 Xo hb2 (ag (spliced_nil ?_)) (by decide) (by decide)))
 cases d<;>try exact absurd rfl aq
 ·refine cH rp fun y t O O=>?_
  exact ag (IsiPair.str_bytes (cL.ok (.bool false) _ aj _ rfl (.refl _ _) (ew _) fun q=>by contradiction))
 ·refine aU rp fun y t O O=>?_
  exact ag (Lc fun mE=>cL.ok (.bool true) _ aj mE rfl (.refl _ _) (ew _) fun q=>by contradiction)
end
theorem Chain.support {h:Heap}{n:Nat}{a:Addr} (c:Chain h n a):∃ l:List Addr,(∀ b∈l,b<h.objs.size)/\∀ h',(∀ b∈l,∀ o,h.get? b=some o->h'.get? b=some o)->Chain h' n a:=by
 induction c with
 | @last a o vs e hf ht hd h2=>exact⟨[a],(by simp;exact Heap.lt_size e),fun h' k=>.last (k _ (.head _) _ e) hf ht hd h2⟩
 | @more n a b o vs e hf ht hd h2 c ih=>
  refine Exists.elim ih fun l zz=>aC zz fun h1 h3=>?_
  refine⟨a::l,fun x hx=>?_,fun h' k=>.more (k _ (.head _) _ e) hf ht hd h2 (h3 h' fun x hx=>k x (.tail _ hx))⟩
  rcases List.mem_cons.mp hx with q | q
  ·rw[q];exact Heap.lt_size e
  ·exact h1 x q
theorem cB.support {A:Around}{h:Heap} (x:cB A h):∃ l:List Addr,(∀ b∈l,b<h.objs.size)/\∀ h',(∀ b∈l,∀ o,h.get? b=some o->h'.get? b=some o)->cB A h':=by
 rcases x with x | ⟨a,n,x,c⟩
 ·exact⟨[],(by simp),fun O O=>.inl x⟩
 ·refine Exists.elim c.support fun l zz=>aC zz fun h1 h2=>?_
  exact⟨l,h1,fun h' k=>.inr ⟨a,n,x,h2 h' k⟩⟩
theorem pk {prog:Program}{w:World}{A:Around}{h₀:Heap}{l:List Addr} (hl:∀ h',(∀ b∈l,∀ o,h₀.get? b=some o->h'.get? b=some o)->cB A h') (I ax:Addr) (au:ax≠I) (hI:I∉l) (items:Array Value) :
  Walks prog w A I (I::ax::l) [I] items.size (fun i v=>items[i]?=some v) (fun i h=>(h.IsTupleIter I ax i/\h.IsTuple ax items)/\∀ b∈l,∀ o,h₀.get? b=some o->h.get? b=some o) where
 sub:=fun b hb=>by simp at hb;simp[hb]
 frame:=fun O O O st hk=>⟨⟨st.1.1.at fun o e=>hk I (by simp) o e,st.1.2.at fun o e=>hk ax (by simp) o e⟩,fun b hb o e=>hk b (by simp[hb]) o (st.2 b hb o e)⟩
 item:=fun i s Q E hi st hQ=>by
  refine wpAny_pyNext_tuple_item st.1.1 st.1.2 (x:=items[i]) (by simp[hi]) fun h' Su nO=>?_
  exact hQ _ h' s.toks (by simp[hi]) ⟨⟨Su,st.1.2.extBut nO.extBut au⟩,fun b hb o e=>nO.extBut b o (fun q=>hI (q ▸ hb)) (st.2 b hb o e)⟩ fun b o hb e=>nO.extBut b o (fun h=>hb (by simp[h])) e
 done:=fun s Q E st hQ=>next_tuple_end (hl _ st.2) st.1.1 st.1.2 (by simp) fun h' he'=>hQ h' s.toks fun b o hb e=>he' b o (fun h=>hb (by simp[h])) e
 self:=fun O O O O st hQ=>wpAny_pyIter_tupleiter st.1.1 hQ
section
variable {prog:Program}{w:World}{base:Heap}{cl:dC->Value}{A:Around}{X:Addr->Prop}{s:Shared}
theorem Ln {a b:Int}{t u:Tok}{Q:Value->Shared->Prop}{E:Value->Shared->Prop} (hh:cB A s.heap)
  (h:∀ h' tk,(∀ c o,s.heap.get? c=some o->h'.get? c=some o)->Q (if b<a then .int b u else .int a t) { s with heap:=h',toks:=tk }) :
  wpAny (model prog w) A (call (.builtin "min") [.int a t,.int b u]) Q E s:=by
 refine Exists.elim hh.support fun l zz=>aC zz fun hl hs=>?_
 have hT:(s.heap.push { cls:=.type "tuple",data:=.seq #[.int a t,.int b u] }).IsTuple s.heap.objs.size (intItems #[(a,t),(b,u)]):=⟨_,Heap.get?_push_size _ rfl,rfl,0,by simp[intItems]⟩
 refine call_min_two (wpAny_pyIter_tuple hT ?_)
 have ka:(s.heap.push { cls:=.type "tuple",data:=.seq #[.int a t,.int b u] }).objs.size=s.heap.objs.size+1:=Heap.size_push ..
 refine⟨_,_::s.heap.objs.size::l,[_],_,_,_,_,rfl,pk (A:=A.in1) (h₀:=s.heap) (l:=l) hs _ s.heap.objs.size (by rw[ka];exact Nat.ne_of_lt (Nat.lt_succ_self _)) (fun q=>absurd (hl _ q) (by rw[ka];exact Nat.not_lt.mpr (Nat.le_succ _))) (intItems #[(a,t),(b,u)]),
  ⟨⟨⟨_,Heap.get?_push_size _ rfl,rfl,rfl⟩,hT.push _⟩,fun b hb o e=>Heap.get?_push_of_some _ (Heap.get?_push_of_some _ e)⟩,fun c hc=>?_,by simp[intItems],CmpOf.ints_lt (numAt #[(a,t),(b,u)]) (fun O O=>intItems_at),fun v h' tk hP hk=>?_⟩
 ·show c<((s.heap.push _).push _).objs.size
  rw[Heap.size_push,ka]
  rcases List.mem_cons.mp hc with rfl | hc
  ·rw[ka];exact Nat.lt_succ_self _
  ·rcases List.mem_cons.mp hc with rfl | hc
   ·exact Nat.lt_succ_of_lt (Nat.lt_succ_self _)
   ·exact Nat.lt_succ_of_lt (Nat.lt_succ_of_lt (hl c hc))
 ·have hold:∀ c o,s.heap.get? c=some o->h'.get? c=some o:=fun c o e=>by
   refine hk c o (fun hm=>?_) (Heap.get?_push_of_some _ (Heap.get?_push_of_some _ e))
   rcases List.mem_cons.mp hm with e1 | hm
   ·have hV:=Heap.lt_size e;rw[e1,ka] at hV;exact absurd hV (Nat.not_lt.mpr (Nat.le_succ _))
   ·contradiction
  have h1:=h h' tk hold
  have hv:v=if b<a then Value.int b u else Value.int a t:=by
   have Pa:(intItems #[(a,t),(b,u)])[argBest (fun i aaQ=>decide (numAt #[(a,t),(b,u)] i<numAt #[(a,t),(b,u)] aaQ)) 1]?=some v:=by
    have Ld:(intItems #[(a,t),(b,u)]).size - 1=1:=by simp[intItems]
    rw[<- Ld];exact hP
   by_cases hc:b<a
   ·have e:argBest (fun i aaQ=>decide (numAt #[(a,t),(b,u)] i<numAt #[(a,t),(b,u)] aaQ)) 1=1:=by simp[argBest,numAt,hc]
    rw[e] at Pa
    rw[if_pos hc];simpa [intItems] using Pa.symm
   ·have e:argBest (fun i aaQ=>decide (numAt #[(a,t),(b,u)] i<numAt #[(a,t),(b,u)] aaQ)) 1=0:=by simp[argBest,numAt,hc]
    rw[e] at Pa
    rw[if_neg hc];simpa [intItems] using Pa.symm
  rw[hv];exact h1
theorem Lp {a b:Int}{t u:Tok}{Q:Value->Shared->Prop}{E:Value->Shared->Prop} (hh:cB A s.heap)
  (h:∀ h' tk,(∀ c o,s.heap.get? c=some o->h'.get? c=some o)->Q (if b > a then .int b u else .int a t) { s with heap:=h',toks:=tk }) :
  wpAny (model prog w) A (call (.builtin "max") [.int a t,.int b u]) Q E s:=by
 refine Exists.elim hh.support fun l zz=>aC zz fun hl hs=>?_
 have hT:(s.heap.push { cls:=.type "tuple",data:=.seq #[.int a t,.int b u] }).IsTuple s.heap.objs.size (intItems #[(a,t),(b,u)]):=⟨_,Heap.get?_push_size _ rfl,rfl,0,by simp[intItems]⟩
 refine call_max_two (wpAny_pyIter_tuple hT ?_)
 have ka:(s.heap.push { cls:=.type "tuple",data:=.seq #[.int a t,.int b u] }).objs.size=s.heap.objs.size+1:=Heap.size_push ..
 refine⟨_,_::s.heap.objs.size::l,[_],_,_,_,_,rfl,pk (A:=A.in1) (h₀:=s.heap) (l:=l) hs _ s.heap.objs.size (by rw[ka];exact Nat.ne_of_lt (Nat.lt_succ_self _)) (fun q=>absurd (hl _ q) (by rw[ka];exact Nat.not_lt.mpr (Nat.le_succ _))) (intItems #[(a,t),(b,u)]),
  ⟨⟨⟨_,Heap.get?_push_size _ rfl,rfl,rfl⟩,hT.push _⟩,fun b hb o e=>Heap.get?_push_of_some _ (Heap.get?_push_of_some _ e)⟩,fun c hc=>?_,by simp[intItems],CmpOf.ints_gt (numAt #[(a,t),(b,u)]) (fun O O=>intItems_at),fun v h' tk hP hk=>?_⟩
 ·show c<((s.heap.push _).push _).objs.size
  rw[Heap.size_push,ka]
  rcases List.mem_cons.mp hc with rfl | hc
  ·rw[ka];exact Nat.lt_succ_self _
  ·rcases List.mem_cons.mp hc with rfl | hc
   ·exact Nat.lt_succ_of_lt (Nat.lt_succ_self _)
   ·exact Nat.lt_succ_of_lt (Nat.lt_succ_of_lt (hl c hc))
 ·have hold:∀ c o,s.heap.get? c=some o->h'.get? c=some o:=fun c o e=>by
   refine hk c o (fun hm=>?_) (Heap.get?_push_of_some _ (Heap.get?_push_of_some _ e))
   rcases List.mem_cons.mp hm with e1 | hm
   ·have hV:=Heap.lt_size e;rw[e1,ka] at hV;exact absurd hV (Nat.not_lt.mpr (Nat.le_succ _))
   ·contradiction
  have h1:=h h' tk hold
  have hv:v=if b > a then Value.int b u else Value.int a t:=by
   have Pa:(intItems #[(a,t),(b,u)])[argBest (fun i aaQ=>decide (numAt #[(a,t),(b,u)] i > numAt #[(a,t),(b,u)] aaQ)) 1]?=some v:=by
    have Ld:(intItems #[(a,t),(b,u)]).size - 1=1:=by simp[intItems]
    rw[<- Ld];exact hP
   by_cases hc:b > a
   ·have e:argBest (fun i aaQ=>decide (numAt #[(a,t),(b,u)] i > numAt #[(a,t),(b,u)] aaQ)) 1=1:=by simp[argBest,numAt,hc]
    rw[e] at Pa
    rw[if_pos hc];simpa [intItems] using Pa.symm
   ·have e:argBest (fun i aaQ=>decide (numAt #[(a,t),(b,u)] i > numAt #[(a,t),(b,u)] aaQ)) 1=0:=by simp[argBest,numAt,hc]
    rw[e] at Pa
    rw[if_neg hc];simpa [intItems] using Pa.symm
  rw[hv];exact h1
set_option tactic.hygienic true in
theorem Lq {fr:Bool}:fc prog w base cl fr (.builtin "min") .min:=fun A X s ds vs hh hu hl r=>by
 cases ds with
 | nil=>exact .stuck
 | cons d ds=>
 cases d<;>try exact .stuck
 rename_i a
 cases ds with
 | nil=>exact .stuck
 | cons e ds=>
 cases e<;>cases ds<;>try exact .stuck
 rename_i b
 show Ev prog w base cl A X fr _ s (.ok (.int (if b<a then b else a)))
 refine bW (QF r) fun v v2 zz=>b6 zz fun aw r1 r2=>?_;clear zz;subst aw
 refine aQ r1 fun t=>?_
 refine aQ r2 fun u=>?_
 refine Ev.val fun Q E hQ=>Ln hh fun h' tk k=>?_
 by_cases hc:b<a
 ·rw[if_pos hc];rw[if_pos hc] at hQ;exact hQ _ _ _ (.of_keeps k) (bD _ _) fun O=>trivial
 ·rw[if_neg hc];rw[if_neg hc] at hQ;exact hQ _ _ _ (.of_keeps k) (bD _ _) fun O=>trivial
set_option tactic.hygienic true in
theorem Lr {fr:Bool}:fc prog w base cl fr (.builtin "max") .max:=fun A X s ds vs hh hu hl r=>by
 cases ds with
 | nil=>exact .stuck
 | cons d ds=>
 cases d<;>try exact .stuck
 rename_i a
 cases ds with
 | nil=>exact .stuck
 | cons e ds=>
 cases e<;>cases ds<;>try exact .stuck
 rename_i b
 show Ev prog w base cl A X fr _ s (.ok (.int (if a<b then b else a)))
 refine bW (QF r) fun v v2 zz=>b6 zz fun aw r1 r2=>?_;clear zz;subst aw
 refine aQ r1 fun t=>?_
 refine aQ r2 fun u=>?_
 refine Ev.val fun Q E hQ=>Lp hh fun h' tk k=>?_
 by_cases hc:a<b
 ·rw[if_pos hc];rw[if_pos hc] at hQ;exact hQ _ _ _ (.of_keeps k) (bD _ _) fun O=>trivial
 ·rw[if_neg hc];rw[if_neg hc] at hQ;exact hQ _ _ _ (.of_keeps k) (bD _ _) fun O=>trivial
end
theorem tx (c:Nat):∀ l,(ai c l).length<=l.length+1:=by
 intro z0
 induction z0 with
 | nil=>simp[fA,aT]
 | cons x r ih=>
  have ih:=ih
  rw[aT]
  split
  ·simpa using ih
  ·cases e:ai c r with
   | nil=>simp
   | cons p ps=>
    rw[e] at ih
    simp at ih ⊢
    lia
noncomputable def cuts (l:List Nat):List Nat->Nat->List (List Nat)
 | [],s=>[l.drop s]
 | p::ps,s=>(l.drop s).take (p - s)::cuts l ps (p+1)
theorem wC {l:List Nat}:cuts l [] s=([l.drop s]):=rfl
theorem m5 {l:List Nat}:cuts l (p::ps) s=((l.drop s).take (p - s)::cuts l ps (p+1)):=rfl
theorem B5 (k:Nat) (l:List Nat):∀ (d s:Nat),s+d=l.length->cuts l ((List.range' s d).filter fun i=>decide (l[i]?=some k)) s=ai k (l.drop s):=by
 intro z0
 induction z0 with
 | zero=>
  intro s h
  rw[List.drop_eq_nil_of_le (by lia)]
  show [l.drop s]=[[]]
  rw[List.drop_eq_nil_of_le (by lia)]
 | succ d ih=>
  intro s h
  have hV:s<l.length:=by lia
  have ih:=ih (s+1) (by lia)
  rw[List.range'_succ,List.drop_eq_getElem_cons hV]
  by_cases hx:l[s]=k
  ·have:decide (l[s]?=some k)=true:=by simp[List.getElem?_eq_getElem hV,hx]
   rw[List.filter_cons,if_pos this,aT,if_pos hx,m5,ih]
   simp
  ·have:¬ decide (l[s]?=some k)=true:=by simp[List.getElem?_eq_getElem hV,hx]
   rw[List.filter_cons,if_neg this]
   have Yy:∀ q∈(List.range' (s+1) d).filter (fun i=>decide (l[i]?=some k)),s+1<=q:=fun q hq=>by
    have:=(List.mem_filter.mp hq).1
    rw[List.mem_range'_1] at this;exact this.1
   generalize (List.range' (s+1) d).filter (fun i=>decide (l[i]?=some k))=ps at ih Yy
   cases ps with
   | nil=>
    rw[wC] at ih ⊢
    rw[jI hx ih.symm,List.drop_eq_getElem_cons hV]
   | cons q qs=>
    rw[m5] at ih ⊢
    have hq:=Yy q (.head _)
    rw[jI hx ih.symm,List.drop_eq_getElem_cons hV]
    have:q - s=(q - (s+1))+1:=by lia
    rw[this,List.take_succ_cons]
theorem B6 (p:Nat->Bool):∀ (d s:Nat) (acc:List Nat) (free:Nat),free<=s->
  ((List.range' s d).foldl (fun (acc:List Nat × Nat) i=>if (decide (i ≥ acc.2)&&p i)=true then (i::acc.1,i+1) else acc) (acc,free)).1.reverse=acc.reverse++(List.range' s d).filter p:=by
 intro z0
 induction z0 with
 | zero=>
  intro s acc free h
  simp
 | succ d ih=>
  intro s acc free h
  rw[List.range'_succ,List.foldl_cons,List.filter_cons]
  have h1:decide (s ≥ free)=true:=by simpa using h
  cases hp:p s with
  | true=>
   rw[if_pos (by rw[h1];rfl),if_pos rfl,ih (s+1) (s::acc) (s+1) (Nat.le_refl _)]
   simp
  | false=>
   rw[if_neg (by rw[h1];decide),if_neg (by decide),ih (s+1) acc free (by lia)]
theorem Dz (b:Array UInt8) (k:UInt8) (l:List Nat) (e:b.toList.map UInt8.toNat=l):Bytes.occurrences b #[k] 0 b.size=(List.range' 0 l.length).filter fun i=>decide (l[i]?=some k.toNat):=by
 have hl:=bf e
 unfold Bytes.occurrences
 have e1:(List.range (b.size+1 - (0+(#[k]:Array UInt8).size))).map (·+0)=List.range' 0 l.length:=by
  rw[show (#[k]:Array UInt8).size=1 from rfl,show b.size+1 - (0+1)=l.length by lia,<- List.range_eq_range'];simp
 rw[e1]
 have:=B6 (fun i=>b.extract i (i+1) == #[k]) l.length 0 [] 0 (Nat.le_refl _)
 rw[oq b k l e] at this
 exact Eq.trans rfl (this.trans (by simp))
theorem iJ (b:Array UInt8) (l:List Nat) (e:b.toList.map UInt8.toNat=l) (ps:List Nat):(Bytes.between b 1 ps).map (fun p=>p.toList.map UInt8.toNat)=cuts l ps 0:=by
 have go:∀ (ps:List Nat) (parts:Array (Array UInt8)) (s:Nat),
   (let r:=ps.foldl (fun (parts,last) p=>(parts.push (b.extract last p),p+1)) (parts,s);(r.1.push (b.extract r.2 b.size)).toList).map (fun p=>p.toList.map UInt8.toNat)=parts.toList.map (fun p=>p.toList.map UInt8.toNat)++cuts l ps s:=by
  intro ps
  induction ps with
  | nil=>
   intro parts s
   simp only[List.foldl_nil,Array.toList_push,List.map_append,List.map_cons,List.map_nil,wC,m5]
   congr 2
   rw[Array.toList_extract,List.extract_eq_drop_take,<- e,List.map_take,List.map_drop]
   rw[List.take_of_length_le (by simp)]
  | cons p ps ih=>
   intro parts s
   rw[List.foldl_cons,ih,m5]
   simp only[Array.toList_push,List.map_append,List.map_cons,List.map_nil,List.append_assoc,List.singleton_append]
   congr 2
   rw[Array.toList_extract,List.extract_eq_drop_take,<- e,List.map_take,List.map_drop]
 have:=go ps #[] 0
 delta Bytes.between
 simpa using this
theorem y7 (b:Array UInt8) (k:UInt8) (l:List Nat) (e:b.toList.map UInt8.toNat=l):(Bytes.between b 1 (Bytes.occurrences b #[k] 0 b.size)).map (fun p=>p.toList.map UInt8.toNat)=ai k.toNat l:=by
 rw[iJ b l e,Dz b k l e,B5 k.toNat l l.length 0 (by lia)]
 rfl
section
variable {prog:Program}{w:World}{base:Heap}{cl:dC->Value}{A:Around}{X:Addr->Prop}{s:Shared}
theorem B7 {g:Addr->Obj->Prop}{E:Value->Shared->Prop}:∀ (l:List (Array UInt8)) (s:Shared) (Q:List Value->Shared->Prop),(∀ p∈l,p.size<=16777216)->
  (∀ vs tk,az g (l.map fun p=>.bytes (p.toList.map UInt8.toNat)) vs->Q vs { s with toks:=tk })->wpAny (model prog w) A (l.mapM (Bytes.Kind.new .bytes)) Q E s:=by
 intro z0
 induction z0 with
 | nil=>
  intro s Q _ hQ
  rw[List.mapM_nil];exact wpAny_pure (hQ [] s.toks .nil)
 | cons p r ih=>
  intro s Q hs hQ
  rw[List.mapM_cons]
  refine wpAny_bind (m:=Bytes.Kind.new .bytes p) ?_
  show wpAny _ _ (mkBytes p) _ _ s
  have hp:=hs p (.head _)
  refine wpAny_mkBytes ?_ (by have:=bu;lia)
  refine wpAny_bind (ih { s with toks:=s.toks+1 } _ (fun z hz=>hs z (.tail _ hz)) fun vs tk rv=>wpAny_pure (hQ _ _ (.cons (by exact⟨p,s.toks,rfl,rfl,by simpa using hp⟩) rv)))
theorem wD (b:Array UInt8) (l:List Nat) (e:b.toList.map UInt8.toNat=l) (ps:List Nat):∀ p∈Bytes.between b 1 ps,p.size<=b.size:=fun p hp=>by
 have h1:p.toList.map UInt8.toNat∈cuts l ps 0:=by rw[<- iJ b l e];exact List.mem_map_of_mem hp
 have hc:∀ (ps:List Nat) (s:Nat),∀ z∈cuts l ps s,z.length<=l.length:=by
  intro ps
  induction ps with
  | nil=>intro s z hz;simp[wC] at hz;subst hz;simp
  | cons q qs ih=>
   intro s z hz
   rw[m5] at hz
   rcases List.mem_cons.mp hz with rfl | hz
   ·simp;omega
   ·exact ih _ z hz
 have:=hc ps 0 _ h1
 have hl:=bf e
 simp at this;omega
set_option tactic.hygienic true in
theorem y8 (hX:nu X s.heap) {l:List Nat}{v:Value}{ds:List V}{vs:List Value} (r:Rep (seen X s.heap) (.bytes l) v) (rs:az (seen X s.heap) ds vs):Ev prog w base cl A X false (call (.builtin "bytes.split") (v::vs) []) s (bq .split (.bytes l::ds)):=by
 cases ds with
 | nil=>exact .stuck
 | cons d rest=>
  cases d<;>cases rest<;>try exact .stuck
  case bytes.cons m _ _=>cases m with
   | nil=>exact .stuck
   | cons c m=>cases m<;>exact .stuck
  rename_i m
  cases m with
  | nil=>exact .stuck
  | cons c m=>
   cases m with
   | cons _ _=>exact .stuck
   | nil=>
    refine Exists.elim (eA rs) fun u zz=>aC zz fun aw r1=>?_;clear zz;subst aw
    refine bW (ei r) fun y t zz=>b6 zz fun aw e hl=>?_;clear zz;subst aw
    refine bW (ei r1) fun z t2 zz=>b6 zz fun aw e2 O=>?_;clear zz;subst aw
    refine Exists.elim (mO e2) fun k zz=>aC zz fun aw gS=>?_;clear zz;subst aw;subst gS
    show Ev prog w base cl A X false _ s (R.guard (decide (l.length<=lim)) (.ok (.list ((ai k.toNat l).map V.bytes))))
    refine Ev.guard fun hg=>?_
    simp only[decide_eq_true_eq] at hg
    have hlen:=bf e
    have hline:=bu
    have j9:lim+1<=16777216:=by decide
    intro Q E p _
    refine wpAny_call_entry FY.eL (W.typeIs_bytes s y t) FY.mY ?_ (FY.lN _ _)
    unfold «bytes.split» Bytes.splitM
    refine wpAny_bind (wpAny_of_eq (a:=[some (Value.bytes #[k] t2),none]) rfl ?_)
    refine wpAny_bind (wpAny_of_eq (a:=(-1:Int)) rfl ?_)
    refine wpAny_bind (wpAny_of_eq (a:=y) rfl ?_)
    refine wpAny_bind (m:=Bytes.bytesLike _ _) ?_
    refine wpAny_bind (wpAny_of_eq KBy.buffer_eq (wpAny_pure ?_))
    have GJ:=y7 y k l e
    have Xp:(Bytes.occurrences y #[k] 0 y.size).length<=y.size+1:=by
     rw[Dz y k l e]
     have:=List.length_filter_le (fun i=>decide (l[i]?=some k.toNat)) (List.range' 0 l.length)
     rw[List.length_range'] at this
     lia
    have zv:(if false=true then Bytes.occurrencesFromRight y #[k] (if (-1:Int)<0 then y.size+1 else (-1:Int).toNat) else List.take (if (-1:Int)<0 then y.size+1 else (-1:Int).toNat) (Bytes.occurrences y #[k] 0 y.size))=Bytes.occurrences y #[k] 0 y.size:=by
     rw[if_neg (by decide),if_pos (by decide)];exact List.take_of_length_le Xp
    rw[if_neg (show ¬ ((#[k]:Array UInt8).isEmpty=true) by simp),zv]
    have Jv:(ai k.toNat l).length<=16777216:=by
     have:=tx k.toNat l
     lia
    by_cases he:(Bytes.occurrences y #[k] 0 y.size).isEmpty=true
    ·rw[if_pos he]
     have h0:Bytes.occurrences y #[k] 0 y.size=[]:=List.isEmpty_iff.mp he
     rw[h0] at GJ
     have h1:ai k.toNat l=[l]:=by
      rw[<- GJ,iJ y l e];rfl
     refine wpAny_bind (wpAny_rule (wpAny_bind (wpAny_of_eq (a:=Value.bytes y t) rfl (wpAny_bind (wpAny_newList ?_ (by show 1<=sizeLine;decide))))))
     refine wpAny_pure ⟨_,rfl,?_⟩
     rw[h1] at p
     exact gF p (by simp) hX (by simpa using (az.cons r .nil)) s.toks
    ·rw[if_neg he]
     refine wpAny_bind (B7 (g:=seen X s.heap) _ s _ (fun q hq=>Nat.le_trans (wD y l e _ q hq) (by lia)) fun vs tk rv=>?_)
     have e3:(Bytes.between y (#[k]:Array UInt8).size (Bytes.occurrences y #[k] 0 y.size)).map (fun p=>V.bytes (p.toList.map UInt8.toNat))=(ai k.toNat l).map V.bytes:=by
      rw[<- GJ,List.map_map];rfl
     rw[e3] at rv
     have Dv:=rv.length
     rw[List.length_map] at Dv
     refine wpAny_bind (wpAny_newList ?_ (by lia))
     refine wpAny_pure ⟨_,rfl,?_⟩
     exact gF p (by simpa using Jv) hX (by simpa using rv) tk
end
noncomputable def eN (i:Int):Bool:=decide (0<=i)&&decide (i<256)
section
variable {prog:Program}{w:World}{base:Heap}{A:Around}{s₀:Shared}{h₀:Heap}
theorem Lv {R:Result->Shared->Prop}{l I S:Addr}{vs:List Value}{ns:List Int} (hh:cB A h₀) (hi:IntsAre vs ns) (hz:ns.length<=sizeLine) (nI:h₀.get? I=none) (nS:h₀.get? S=none) (To:I≠S) (Vu:h₀.IsList l vs.toArray)
  (Iu:ns.all eN=true->∀ h' t k,Kept base h₀ h'->R (.ok (.ret (.bytes (byteArr ns) t))) { s₀ with heap:=h',toks:=k })
  (Sv:ns.all eN=false->∀ e h' k,Kept base h₀ h'->ExcAt false h₀ (.type "ValueError") e h'->R (.error (.ref e)) { s₀ with heap:=h',toks:=k }) :
  ∀ (rest done:List Int) (h:Heap) (k:Nat),ns=done++rest->done.all eN=true->Kept base h₀ h->h.IsListIter I l done.length->h.get? S=some { cls:=.type "bytearray",data:=.bytearray (byteArr done) }->
   codeAny (model prog w) A (.builtin "bytes.__new__.loop" ⟨[.type "bytes",.ref I,.ref S],[]⟩) R { s₀ with heap:=h,toks:=k }:=by
 have Dv:vs.length=ns.length:=hi.length
 have lst:∀ {h},Kept base h₀ h->h.IsList l vs.toArray:=fun kp=>by
  obtain⟨o,e,c,n,d⟩:=Vu
  exact⟨o,kp.get e (dG d),c,n,d⟩
 intro rest
 induction rest with
 | nil=>
  intro done h k hn hd kp hit hS
  rw[List.append_nil] at hn
  subst hn
  refine codeAny_builtin F.bm_entry_loop ?_
  rw[Around.under_plainId F.bm_plain_loop _]
  show wpAny _ A.in1 (pyNext (.ref I) >>= _) _ _ _
  refine wpAny_bind (kO (A:=A.in1) (s:={ s₀ with heap:=h,toks:=k }) (hh.kept kp) hit (lst kp) (by simp[Dv]) fun h' he=>?_)
  have Vv:=he S _ (Ne.symm To) hS
  refine wpAny_bind ?_
  unfold Builtin.Bytes.payload Builtin.Bytes.payload?
  refine wpAny_bind (wpAny_bind (wpAny_load (s:={ s₀ with heap:=h',toks:=k }) Vv ?_))
  refine wpAny_pure (wpAny_pure ?_)
  refine wpAny_bind (wpAny_mkBytes ?_ (by rw[byteArr_size];exact hz))
  show wpAny _ _ (if (Value.type "bytes" == Value.type "bytes")=true then _ else _) _ _ _
  refine bm_if_true (by decide) ?_
  have fin:=Iu hd h' k (k+1) (kp.extBut nI he)
  first
   | exact wpAny_pure fin
   | exact wpAny_bind (wpAny_pure (wpAny_pure fin))
 | cons x rest ih=>
  intro done h k hn hd kp hit hS
  have hx:ns[done.length]?=some x:=by rw[hn];simp
  have hV:done.length<vs.length:=by rw[Dv,hn];simp
  refine bW (IntsAre.at hi done.length vs[done.length] (List.getElem?_eq_getElem hV)) fun n t zz=>aC zz fun hv Wh=>?_
  rw[hx] at Wh
  obtain rfl:=Option.some.inj Wh
  refine codeAny_builtin F.bm_entry_loop ?_
  rw[Around.under_plainId F.bm_plain_loop _]
  show wpAny _ A.in1 (pyNext (.ref I) >>= _) _ _ _
  refine wpAny_bind (wpAny_pyNext_list_item (s:={ s₀ with heap:=h,toks:=k }) (x:=.int x t) hit (lst kp) (by rw[List.getElem?_toArray,List.getElem?_eq_getElem hV,hv]) fun h' Su hs=>?_)
  have Wj:=kp.extBut nI hs.extBut
  have Vv:=(hs.2 S (Ne.symm To)).trans hS
  refine wpAny_bind (wpAny_holding (wpAny_of_eq (rfl:asIndex (.int x t)=pure x) ?_))
  refine wpAny_bind (wpAny_letGo ?_)
  by_cases s9:eN x=true
  ·unfold eN at s9
   simp only[Bool.and_eq_true,decide_eq_true_eq] at s9
   refine bm_if_false (by simp only[Bool.or_eq_false_iff,decide_eq_false_iff_not];lia) ?_
   refine wpAny_bind ?_
   show wpAny _ _ (updateBytearray S (·.push x.toNat.toUInt8)) _ _ _
   unfold updateBytearray
   refine wpAny_bind (wpAny_load (s:={ s₀ with heap:=h',toks:=k }) Vv ?_)
   show wpAny _ _ (update S (Obj.mapBytearray (·.push x.toNat.toUInt8)) >>= fun O=>lookBehind S) _ _ _
   refine wpAny_bind (wpAny_update (s:={ s₀ with heap:=h',toks:=k }) Vv ?_)
   have e2:byteArr (done++[x])=(byteArr done).push x.toNat.toUInt8:=by unfold byteArr;simp
   have QI:(h'.update S (Obj.mapBytearray (·.push x.toNat.toUInt8))).get? S=some { cls:=.type "bytearray",data:=.bytearray (byteArr (done++[x])) }:=by
    rw[e2]
    exact Heap.get?_update_self (Obj.mapBytearray (·.push x.toNat.toUInt8)) Vv rfl
   have hlen:(done++[x]).length<=ns.length:=by rw[hn];simp
   refine wpAny_lookBehind (s:={ s₀ with heap:=h'.update S (Obj.mapBytearray (·.push x.toNat.toUInt8)),toks:=k }) QI ?_ ?_
   ·show (if (byteArr (done++[x])).size > sizeLine then some "bytearray:memory" else none)=none
    rw[if_neg]
    rw[byteArr_size]
    lia
   ·refine wpAny_pure ⟨plainId_quiet F.bm_plain_loop _,ih (done++[x]) _ k (by rw[hn];simp) ?_ (Wj.extBut nS (Heap.SameBut.update ..).extBut) ?_ QI⟩
    ·rw[List.all_append,hd]
     show (true&&(eN x&&true))=true
     unfold eN
     simp;lia
    ·have:=Su.extBut (Heap.SameBut.update (f:=Obj.mapBytearray (·.push x.toNat.toUInt8)) (h:=h') (a:=S) ..).extBut To
     simpa using this
  ·refine bm_if_true ?_ ?_
   ·unfold eN at s9
    simp only[Bool.and_eq_true,decide_eq_true_eq,not_and] at s9
    simp only[Bool.or_eq_true,decide_eq_true_eq]
    lia
   ·have qS:ns.all eN=false:=by
     rw[hn,List.all_append]
     simp[s9]
    refine wpAny_bind (wpAny_rule (wpAny_bind (mD (base:=base) (A:=A.in1) (s:={ s₀ with heap:=h',toks:=k }) (hh.kept Wj) first_value Hm (by decide) (by decide) fun e aE tk Vw hx=>?_)))
    exact Sv qS e aE tk (Wj.trans Vw) (hx.elder Wj)
end
section
variable {prog:Program}{w:World}{base:Heap}{A:Around}{s:Shared}
theorem HN {l:Addr}{vs:List Value}{ns:List Int}{R:Result->Shared->Prop} (hh:cB A s.heap) (hl:s.heap.IsList l vs.toArray) (hi:IntsAre vs ns) (hz:ns.length<=sizeLine)
  (Iu:ns.all eN=true->∀ h' t k,Kept base s.heap h'->R (.ok (.ret (.bytes (byteArr ns) t))) { s with heap:=h',toks:=k })
  (Sv:ns.all eN=false->∀ e h' k,Kept base s.heap h'->ExcAt false s.heap (.type "ValueError") e h'->R (.error (.ref e)) { s with heap:=h',toks:=k }) :
  codeAny (model prog w) A (.call (.builtin "bytes.__new__") ⟨[.type "bytes",.ref l],[]⟩) R s:=by
 refine codeAny_of_tree ?_
 show wpAny _ A.in1 (do checkBuiltinCall "bytes.__new__" ⟨[.type "bytes",.ref l],[]⟩;again (.builtin "bytes.__new__" ⟨[.type "bytes",.ref l],[]⟩)) _ _ s
 refine wpAny_bind (wpAny_of_eq (F.bm_newCall _) (wpAny_pure ⟨plainId_quiet F.bm_plain _,codeAny_builtin F.bm_entry ?_⟩))
 rw[Around.under_plainId F.bm_plain _]
 have hT:s.TypeIs (.ref l) "list":=hl.typeIs
 obtain⟨ol,UG,Yk,nl,hod⟩:=id hl
 generalize Qu:s.heap.push { cls:=.type "list_iterator",data:=.fields #[.ref l,.int 0 0] }=H1
 generalize Qv:H1.push { cls:=.type "bytearray",data:=.bytearray #[] }=H2
 have k1:Kept base s.heap H1:=Qu ▸ Kept.push _ _ _
 have k2:Kept base H1 H2:=Qv ▸ Kept.push _ _ _
 have To:s.heap.objs.size<H1.objs.size:=by rw[<- Qu,Heap.size_push];lia
 have main:=Lv (prog:=prog) (w:=w) (base:=base) (A:=A) (s₀:=s) (h₀:=s.heap) (R:=R) (l:=l) (I:=s.heap.objs.size) (S:=H1.objs.size) hh hi hz (bV _) (Heap.get?_none_of_le (Nat.le_of_lt To)) (Nat.ne_of_lt To) hl Iu Sv
  ns [] H2 s.toks rfl rfl (k1.trans k2) ⟨_,Qv ▸ Heap.get?_push_of_some _ (Qu ▸ Heap.get?_push_size _ rfl),rfl,rfl⟩ (Qv ▸ Heap.get?_push_size _ rfl)
 unfold Builtin.«bytes.__new__»
 refine wpAny_bind (wpAny_of_eq (a:=true) rfl ?_)
 refine bm_if_false rfl ?_
 refine wpAny_bind (wpAny_of_eq F.bm_sub ?_)
 refine bm_if_false rfl ?_
 refine wpAny_bind (wpAny_of_eq (F.bm_bind _) ?_)
 refine wpAny_bind (wpAny_of_eq (a:=()) rfl ?_)
 refine wpAny_bind (wpAny_of_eq (a:=()) rfl ?_)
 refine bm_if_false rfl ?_
 refine wpAny_bind (wpAny_specialOf hT F.bm_no_bytes ?_)
 refine wpAny_bind (wpAny_bind ?_)
 show wpAny _ _ (load l >>= _) _ _ _
 refine wpAny_bind (wpAny_load UG ?_)
 rw[hod]
 refine wpAny_pure (wpAny_pure ?_)
 refine bm_if_false rfl ?_
 refine wpAny_bind (wpAny_specialOf hT F.bm_no_index ?_)
 refine bm_if_true rfl ?_
 first
  | show wpAny _ _ (Builtin.Bytes.buffer? "bytes.__new__" (.ref l) true >>= _) _ _ _
  | (refine wpAny_bind ?_;show wpAny _ _ (Builtin.Bytes.buffer? "bytes.__new__" (.ref l) true >>= _) _ _ _)
 refine wpAny_bind ?_
 unfold Builtin.Bytes.buffer?
 refine wpAny_bind (wpAny_specialOf hT F.bm_no_buffer ?_)
 refine wpAny_bind (wpAny_specialOf hT F.bm_no_buffer ?_)
 refine wpAny_pure ?_
 refine wpAny_bind (wpAny_tryCatch (wpAny_pyIter_list hl ?_))
 rw[Qu]
 have QJ:({ s with heap:=H1 }:Shared).TypeIs (.ref l) "list":=by
  refine Exists.elim (id hl) fun o zz=>b6 zz fun e c O=>?_
  exact⟨o,Qu ▸ Heap.get?_push_of_some _ e,c⟩
 refine wpAny_bind (wpAny_holding ?_)
 refine wpAny_bind (wpAny_specialOf QJ slot_list_len.lookup ?_)
 dsimp only
 rw[F.bm_split]
 refine wpAny_bind (wpAny_isInstance QJ F.bm_sub_list ?_)
 refine bm_if_false rfl ?_
 refine bm_if_true (by decide +kernel) ?_
 refine wpAny_pure ?_
 refine wpAny_bind ?_
 refine wpAny_newObj_type ?_ (Nat.zero_le _)
 rw[Qv]
 first
  | exact wpAny_pure ⟨plainId_quiet F.bm_plain_loop _,main⟩
  | exact wpAny_pure (wpAny_pure ⟨plainId_quiet F.bm_plain_loop _,main⟩)
theorem ints_of {g:Addr->Obj->Prop}:∀ {xs:List V}{ns:List Int}{vs:List Value},eE xs=some ns->az g xs vs->IntsAre vs ns/\vs.length=ns.length:=by
 intro z0
 induction z0 with
 | nil=>
  intro ns vs h r
  skip;subst r;injection h with h;subst h;exact⟨.nil,rfl⟩
 | cons d xs ih=>
  intro ns vs h r
  refine bW r fun v r' zz=>b6 zz fun aw r1 r2=>?_;clear zz;try clear r;subst aw
  cases d<;>first | (contradiction;done) | skip
  rw[qo] at h
  cases q:eE xs with
  | none=>rw[q] at h;contradiction
  | some zs=>
   rw[q] at h;injection h with h;subst h
   refine aC (ih q r2) fun i1 i2=>?_
   refine aQ r1 fun t=>?_
   exact⟨.cons _ _ i1,by simp[i2]⟩
end
section
variable {prog:Program}{w:World}{base:Heap}{cl:dC->Value}{A:Around}{X:Addr->Prop}{s:Shared}
theorem su {v:Value}{Q E:Value->Shared->Prop}
  (Ow:codeAny (model prog w) A.in1 (.call (.builtin "bytes.__new__") ⟨[.type "bytes",v],[]⟩) (wants (fun obj s₁=>s₁.TypeIs obj "bytes"/\Q obj s₁) E) s):wpAny (model prog w) A (call (.type "bytes") [v]) Q E s:=
 callType_codes (Q₁:=fun obj s₁=>s₁.TypeIs obj "bytes"/\Q obj s₁) F.bm_called (F.bm_typeCall _) F.entry_object_init Ow fun obj s₁ aj=>
  ⟨aj.1,F.args_object_init_2 obj _,object_init_meets F.bm_called.init.lookup F.bm_called.made (by decide) prog w A.in1 _ s₁ ⟨aj.1,rfl,aj.2⟩⟩
theorem bytes_list (HG:cl .value=.type "ValueError") (hh:cB A s.heap) {xs:List V}{v:Value} (r:Rep (seen X s.heap) (.list xs) v):Ev prog w base cl A X false (call (.type "bytes") [v]) s (bq .bytes [.list xs]):=by
 refine dR r fun a dd sl vs nn hX ha hlen rl=>?_
 show Ev prog w base cl A X false _ s (match eE xs with | some is=>if is.all eN then .ok (.bytes (is.map Int.toNat)) else R.guard (is.all fun i=>decide (0<=i)) (.exc .value) | none=>.stuck)
 cases q:eE xs with
 | none=>exact .stuck
 | some is=>
  refine aC (ints_of q rl) fun hi Dv=>?_
  have hline:=bu
  have A0:=rl.length
  intro Q E p au
  dsimp only at p au
  refine su (HN (A:=A.in1) (base:=base) (vs:=vs.toList) hh (by simpa using bH ha) hi (by lia) (fun Iu h' t k kp=>?_) fun Iu e h' k kp hx=>?_)
  ·rw[if_pos Iu] at p
   refine⟨rfl,p.ok _ _ h' k rfl kp (dH t ?_ ?_) fun q=>by contradiction⟩
   ·unfold byteArr
    simp only[List.map_map]
    refine List.map_congr_left fun i hi=>?_
    have:=List.all_eq_true.mp Iu i hi
    unfold eN at this
    simp only[Bool.and_eq_true,decide_eq_true_eq] at this
    show (i.toNat.toUInt8).toNat=i.toNat
    rw[Nat.toUInt8_eq,UInt8.toNat_ofNat']
    lia
   ·rw[List.length_map];lia
  ·rw[Iu] at p au
   have hg:=R.mQ au
   rw[if_neg (by decide),R.guard,hg,if_pos rfl] at p
   exact p.ex .value e h' k rfl kp (by rw[HG];exact hx)
end
theorem Pb {id:String}{b:Array UInt8}{t:Tok}:Bytes.takeBufferQuiet? id (.bytes b t) 0=pure (some (b,none)):=by
 have e:Bytes.takeBuffer? id (.bytes b t) 0=pure (some (b,none)):=by
  unfold Bytes.takeBuffer?
  rw[KBy.special_eq KBy.look_buffer,KBy.own_buffer]
  have hb:Bytes.buffer? id (.bytes b t) (0 == Bytes.fullReadOnly)=pure (some b):=by
   rw[show ((0:Int) == Bytes.fullReadOnly)=false by decide];exact KBy.buffer_eq
  show (Bytes.buffer? id (.bytes b t) (0 == Bytes.fullReadOnly) >>= _)=_
  rw[hb];rfl
 unfold Bytes.takeBufferQuiet?
 rw[e]
 rfl
theorem Pg {j:Type}{M:Model}{A:Around}{E:Value->Shared->Prop}{s:Shared}{f:Nat->j->Sem (ForInStep j)} (P:Nat->Nat->j->Prop) (next:Nat->j->j) (h:∀ i k st,P i (k+1) st->wpAny M A (f i st) (fun r s'=>r=.yield (next i st)/\s'=s) E s/\P (i+1) k (next i st)) :
  ∀ (k i:Nat) (st:j) (Q:j->Shared->Prop),P i k st->(∀ mV,P (i+k) 0 mV->Q mV s)->wpAny M A (forIn (List.range' i k) st f) Q E s:=by
 intro z0
 induction z0 with
 | zero=>
  exact fun i st Q hp hQ=>wpAny_pure (hQ st hp)
 | succ k ih=>
  intro i st Q hp hQ
  refine aC (h i k st hp) fun h1 h2=>?_
  rw[List.range'_succ,List.forIn_cons]
  refine wpAny_bind (wpAny_mono h1 (fun r s' hr=>?_) fun O O e=>e)
  refine aC hr fun aw gS=>?_;try clear hr;subst aw;subst gS
  exact ih (i+1) (next i st) Q h2 fun mV TR=>hQ mV (by rw[show i+(k+1)=i+1+k by lia];exact TR)
noncomputable def pq (l:List (Array UInt8 × Tok)):List Value:=l.map fun p=>.bytes p.1 p.2
theorem HP {prog:Program}{w:World}{A:Around}{s:Shared}{E:Value->Shared->Prop}:∀ (l:List (Array UInt8 × Tok)) (keep:List Value) (Q:Unit->Shared->Prop),Q () s->wpAny (model prog w) A (Bytes.joinLetGo (l.map fun p=>(Value.bytes p.1 p.2,none)) keep) Q E s:=by
 intro z0
 induction z0 with
 | nil=>
  exact fun keep Q h=>wpAny_pure h
 | cons p r ih=>
  intro keep Q h
  show wpAny _ _ (letGo _ _ >>= fun O=>Bytes.joinLetGo _ _) _ _ _
  exact wpAny_bind (wpAny_letGo (ih keep Q h))
theorem HQ {prog:Program}{w:World}{A:Around}{s:Shared}{sep:Array UInt8}{t:Tok}{a:Addr}{o:Obj}{bS dj:Array UInt8 × Tok}{r:List (Array UInt8 × Tok)}{n:Nat}{Q:PySem.Fin->Shared->Prop}{E:Value->Shared->Prop} (ha:s.heap.get? a=some o) (hc:o.cls=.type "list") (hd:o.data=.seq ⟨pq (bS::dj::r)⟩ n)
  (ka:(Bytes.joined sep ((bS::dj::r).map (·.1))).size<=sizeLine) (Vx:Bytes.tooLong (((bS::dj::r).map (·.1)).toArray.foldl (·+·.size) (sep.size*(((bS::dj::r).map (·.1)).toArray.size - 1)))=false)
  (hQ:Q (.done (.ret (.bytes (Bytes.joined sep ((bS::dj::r).map (·.1))) s.toks))) { s with toks:=s.toks+1 }) :
  wpAny (model prog w) A («bytes.join» ⟨[.bytes sep t,.ref a],[]⟩) Q E s:=by
 have hT:s.TypeIs (.ref a) "list":=⟨o,ha,hc⟩
 unfold «bytes.join» Bytes.joinM
 refine wpAny_bind (wpAny_of_eq (a:=(Value.bytes sep t,Value.ref a)) rfl ?_)
 refine wpAny_bind (m:=Bytes.joinItems (.ref a)) ?_
 refine wpAny_bind (wpAny_typeOf hT ?_)
 rw[if_pos (show (Value.type "list" == Value.type "list"||Value.type "list" == Value.type "tuple")=true from rfl)]
 refine wpAny_pure ?_
 refine wpAny_bind (wpAny_seqItems ha hd ?_)
 dsimp only
 rw[if_pos (show (Bytes.Kind.bytes == Bytes.Kind.bytes)=true from rfl)]
 show wpAny _ _ (forIn _ _ _ >>= _) _ _ _
 rw[Std.Legacy.Range.forIn_eq_forIn_range']
 generalize hl:bS::dj::r=l at *
 have hn:(⟨pq l⟩:Array Value).size=l.length:=by simp[pq]
 refine wpAny_bind (Pg (s:=s) (fun i k st=>i+k=l.length/\st=(((l.take i).map (·.1)).toArray,(l.take i).map fun p=>(Value.bytes p.1 p.2,none)))
  (fun i st=>(st.1.push ((l.getD i bS).1),st.2++[(Value.bytes (l.getD i bS).1 (l.getD i bS).2,none)])) (fun i k st hp=>⟨?_,?_⟩) _ 0 (#[],[]) _ ⟨?_,rfl⟩ fun st hp=>?_)
 ·refine aC hp fun hik aw=>?_;try clear hp;subst aw
  have hV:i<l.length:=by lia
  have Un:l.getD i bS=l[i]:=by simp[List.getD,hV]
  have hit:(⟨pq l⟩:Array Value).getD i Value.none=Value.bytes l[i].1 l[i].2:=by
   simp[pq,Array.getD,hV]
  refine wpAny_bind (wpAny_seqItems ha hd ?_)
  dsimp only
  rw[if_neg (by
   have:(List.map (fun p:Array UInt8 × Tok=>(Value.bytes p.1 p.2,(none:Option Value))) (l.take i)).any (fun x=>x.1.onHeap)=false:=by
    rw[List.any_map,List.any_eq_false];exact fun x O=>Bool.false_ne_true
   rw[this];decide)]
  rw[hit]
  refine wpAny_bind (wpAny_holding (wpAny_of_eq Pb ?_))
  refine wpAny_bind (wpAny_seqItems ha hd ?_)
  dsimp only
  rw[if_neg (by simp)]
  refine wpAny_pure ⟨?_,rfl⟩
  rw[Un]
 ·refine aC hp fun hik aw=>?_;try clear hp;subst aw
  have hV:i<l.length:=by lia
  have Un:l.getD i bS=l[i]:=by simp[List.getD,hV]
  refine⟨by lia,?_⟩
  rw[Un]
  have ht:l.take (i+1)=l.take i++[l[i]]:=by rw[List.take_succ,List.getElem?_eq_getElem hV];rfl
  rw[ht]
  simp only[List.map_append,List.map_cons,List.map_nil,List.push_toArray]
 ·simp[Std.Legacy.Range.size,hn]
 ·refine aC hp fun hk aw=>?_;try clear hp;subst aw
  have Vy:l.take (0+[:(⟨pq l⟩:Array Value).size].size)=l:=List.take_of_length_le (by simp[Std.Legacy.Range.size,hn])
  rw[Vy]
  refine wpAny_bind (wpAny_of_eq (a:=sep) rfl ?_)
  rw[if_neg (by rw[Vx];decide)]
  refine wpAny_bind (m:=Bytes.Kind.new .bytes _) ?_
  show wpAny _ _ (mkBytes _) _ _ _
  refine wpAny_mkBytes ?_ (by simpa using ka)
  refine wpAny_bind (wpAny_holding (wpAny_point ?_))
  refine wpAny_bind (HP l _ _ ?_)
  exact wpAny_pure (by simpa using hQ)
theorem HR (sep:Array UInt8):∀ (l:List (Array UInt8)) (i:Nat) (acc:Array UInt8),0<i->((l.zipIdx i).foldl (fun out (p,i)=>(if i > 0 then out++sep else out)++p) acc).toList.map UInt8.toNat=acc.toList.map UInt8.toNat++(l.map fun p=>sep.toList.map UInt8.toNat++p.toList.map UInt8.toNat).flatten:=by
 intro z0
 induction z0 with
 | nil=>
  intro i acc h
  simp
 | cons p r ih=>
  intro i acc h
  rw[List.zipIdx_cons,List.foldl_cons,ih (i+1) _ (by lia)]
  dsimp only
  rw[if_pos (show i > 0 from h)]
  simp
theorem sv (sep:List Nat):∀ (p:List Nat) (r:List (List Nat)),bj sep (p::r)=p++(r.map fun q=>sep++q).flatten
 | p,[]=>by simp[dg,ck,aV]
 | p,q::r=>by
  rw[aV,sv sep q r]
  simp
theorem HS (sep:Array UInt8) (l:List (Array UInt8)):(Bytes.joined sep l).toList.map UInt8.toNat=bj (sep.toList.map UInt8.toNat) (l.map fun p=>p.toList.map UInt8.toNat):=by
 cases l with
 | nil=>rfl
 | cons p r=>
  unfold Bytes.joined
  rw[List.zipIdx_cons,List.foldl_cons,HR sep r (0+1) _ (by lia),List.map_cons,sv,List.map_map]
  simp[Function.comp_def]
theorem B8:∀ (l:List (Array UInt8)) (k:Nat),l.foldl (·+·.size) k=k+bx (l.map fun p=>p.toList.map UInt8.toNat):=by
 intro z0
 induction z0 with
 | nil=>
  intro k
  simp[cM,aY]
 | cons p r ih=>
  intro k
  rw[List.foldl_cons,ih]
  simp only[List.map_cons,cM,aY,List.length_map,Array.length_toList]
  lia
theorem Lw {g:Addr->Obj->Prop}:∀ {xs:List V}{ys:List (List Nat)}{vs:List Value},fq xs=some ys->az g xs vs->∃ l:List (Array UInt8 × Tok),vs=pq l/\(l.map fun p=>p.1.toList.map UInt8.toNat)=ys:=by
 intro z0
 induction z0 with
 | nil=>
  intro ys vs h r
  skip;subst r;injection h with h;subst h;exact⟨[],rfl,rfl⟩
 | cons d xs ih=>
  intro ys vs h r
  refine bW r fun v r' zz=>b6 zz fun aw r1 r2=>?_;clear zz;try clear r;subst aw
  cases d<;>first | (contradiction;done) | skip
  rw[qn] at h
  cases q:fq xs with
  | none=>rw[q] at h;contradiction
  | some zs=>
   rw[q] at h;injection h with h;subst h
   refine Exists.elim (ih q r2) fun l zz=>aC zz fun aw gS=>?_;clear zz;subst aw;subst gS
   refine aU r1 fun y t gS O=>?_;subst gS
   exact⟨(y,t)::l,rfl,rfl⟩
section
variable {prog:Program}{w:World}{base:Heap}{cl:dC->Value}{A:Around}{X:Addr->Prop}{s:Shared}
set_option tactic.hygienic true in
theorem B9 (hX:nu X s.heap) {l:List Nat}{v:Value}{ds:List V}{vs:List Value} (r:Rep (seen X s.heap) (.bytes l) v) (rs:az (seen X s.heap) ds vs):Ev prog w base cl A X false (call (.builtin "bytes.join") (v::vs) []) s (bq .join (.bytes l::ds)):=by
 cases ds with
 | nil=>exact .stuck
 | cons d rest=>
  cases d<;>cases rest<;>try exact .stuck
  rename_i xs
  refine Exists.elim (eA rs) fun u zz=>aC zz fun aw r1=>?_;clear zz;subst aw
  refine aU r fun y t e hl=>?_
  refine dR r1 fun a dd sl ws nn O ha hlen rl=>?_
  show Ev prog w base cl A X false _ s (match fq xs with | some ys=>R.guard (decide (2<=ys.length)&&decide (bx ys+l.length*ys.length<=lim)) (.ok (.bytes (bj l ys))) | none=>.stuck)
  cases q:fq xs with
  | none=>exact .stuck
  | some ys=>
   refine Ev.guard fun hg=>?_
   simp only[Bool.and_eq_true,decide_eq_true_eq] at hg
   refine Exists.elim (Lw q rl) fun ps zz=>aC zz fun O8 QH=>?_
   have Sp:=bf e
   have j9:lim<=16777216:=by decide
   have hline:=bu
   have hjl:=oi l ys
   have Xq:ws=⟨pq ps⟩:=by rw[<- O8]
   subst Xq
   have h2:2<=ps.length:=by have:=hg.1;rw[<- QH] at this;simpa using this
   obtain⟨bS,dj,rr,rfl⟩:∃ bS dj rr,ps=bS::dj::rr:=by
    match ps,h2 with
    | bS::dj::rr,_=>exact⟨bS,dj,rr,rfl⟩
   have hj:(Bytes.joined y ((bS::dj::rr).map (·.1))).toList.map UInt8.toNat=bj l ys:=by
    rw[HS,e,List.map_map,<- QH];rfl
   have hjs:(Bytes.joined y ((bS::dj::rr).map (·.1))).size=(bj l ys).length:=bf hj
   refine Ev.flat (fun O O O=>trivial) fun Q E hQ=>wpAny_call_entry FY.fh (W.typeIs_bytes s y t) FY.om (HQ ha rfl rfl (by lia) ?_ ⟨_,rfl,hQ _ _ (dH _ hj (by lia))⟩) (FY.m4 _ _)
   rw[List.foldl_toArray,B8]
   unfold Bytes.tooLong
   have e1:(((bS::dj::rr).map (·.1)).map fun p=>p.toList.map UInt8.toNat)=ys:=by rw[List.map_map];exact QH
   rw[e1]
   have e2:((bS::dj::rr).map (·.1)).toArray.size=ys.length:=by rw[<- QH];simp
   rw[e2]
   have e3:y.size*(ys.length - 1)<=l.length*ys.length:=by rw[Sp];exact Nat.mul_le_mul_left _ (Nat.sub_le _ _)
   simp only[decide_eq_false_iff_not,gt_iff_lt,Nat.not_lt]
   lia
end
theorem wF:typeLookup (.type "bytes") "__int__"=pure none:=by rw[typeLookup_type,builtinLookup_eq_fast];kernel_rfl
theorem wG:typeLookup (.type "bytes") "__index__"=pure none:=by rw[typeLookup_type,builtinLookup_eq_fast];kernel_rfl
theorem sx:typeLookup (.type "bytes") "__trunc__"=pure none:=by rw[typeLookup_type,builtinLookup_eq_fast];kernel_rfl
set_option maxHeartbeats 4000000 in
theorem pQ {b:Array UInt8}{u:Tok}{n:Int} (hs:((b.toList.map (·.toNat)).takeWhile (· != 0)).length<=640) (hr:(int_private% "readNumeral") 0 10 ((b.toList.map (·.toNat)).takeWhile (· != 0))=(int_private% "Numeral.value") n)
  (ha:(((b.toList.map (·.toNat)).takeWhile (· != 0)).length == (b.toList.map (·.toNat)).length)=true):Gives (Builtin.«int.__new__» ⟨[.type "int",.bytes b u],[]⟩) (.int n):=
 .of_wp fun M A E s Q h=>by
  obtain⟨hp,g,d,tk,os⟩:=s
  have f1:=F.conv_sub_int
  have f2:=F.madeHere_int
  have f3:=wF
  have f4:=wG
  have f5:=sx
  have f6:typeOf (.bytes b u)=pure (.type "bytes"):=rfl
  have hk:=KIN.Hid.mk (And.intro hs (And.intro hr ha))
  clear hs hr ha
  repeat (any_goals (first
   | assumption
   | ((with_reducible show wpAny _ _ ((int_private% "intFromText") _ _ _) _ _ _);refine KIN.wp_text hk.out.1 hk.out.2.1 hk.out.2.2 ?_)
   | wp_step))
  all_goals first | exact⟨_,rfl,h⟩ | skip
theorem hM:∀ {l:List Nat},(∀ c∈l,48<=c)->l.takeWhile (· != 0)=l:=by
 intro z0
 induction z0 with
 | nil=>
  exact fun O=>rfl
 | cons c l ih=>
  intro h
  have:=h c (.head _)
  rw[List.takeWhile_cons,if_pos (by simp;lia),ih fun d hd=>h d (.tail _ hd)]
theorem y9 {l:List Nat} (hd:NumText.AllDigits l) (au:l≠[]) (hl:l.length<=640):(int_private% "readNumeral") 0 10 (l.takeWhile (· != 0))=(int_private% "Numeral.value") ((NumText.digitsVal l:Nat):Int):=by
 have hx:=intText_digits (x:=⟨l.toArray⟩) (by simpa using hd) (by simpa using au) (by show l.toArray.size<=4300;simp;lia)
 have ht:numTextOf (⟨l.toArray⟩:PySem.Str)=l:=by
  unfold numTextOf
  rw[if_pos]
  simp only[List.all_toArray,List.all_eq_true,decide_eq_true_eq]
  intro c hc;have:=hd c hc;lia
 have hs:numSeenOf (⟨l.toArray⟩:PySem.Str)=l.takeWhile (· != 0):=by unfold numSeenOf;rw[ht]
 rcases read0 (⟨l.toArray⟩:PySem.Str) (by rw[hs,hM fun c hc=>(hd c hc).1];exact hl) with ⟨m,h1,h2,h3⟩ | ⟨h1,_⟩
 ·rw[hx] at h1
  rw[hs] at h3
  rw[h3,<- Option.some.inj h1]
 ·rw[hx] at h1;contradiction
section
variable {prog:Program}{w:World}{base:Heap}{cl:dC->Value}
set_option tactic.hygienic true in
theorem Lx {fr:Bool}:fc prog w base cl fr (.type "int") .int:=fun A X s ds vs hh hu hl r=>by
 cases ds with
 | nil=>exact .stuck
 | cons d ds=>
 cases d<;>cases ds<;>try exact .stuck
 rename_i l
 show Ev prog w base cl A X fr _ s (R.guard (!l.isEmpty&&l.all aO&&decide (l.length<=640)) (.ok (.int (digitsVal l))))
 refine Exists.elim (eA r) fun v zz=>aC zz fun aw r1=>?_;clear zz;subst aw
 refine aU r1 fun y t e h=>?_
 refine Ev.guard fun hg=>?_
 simp only[Bool.and_eq_true,Bool.not_eq_true',decide_eq_true_eq,List.all_eq_true] at hg
 refine aC hg fun mw h3=>?_;obtain⟨h1,h2⟩:=mw
 have hd:NumText.AllDigits l:=fun c hc=>by have:=h2 c hc;unfold aO at this;simpa using this
 have au:l≠[]:=by intro q;subst q;simp at h1
 subst e
 have ht:=hM fun c hc=>(hd c hc).1
 refine Ev.flat (fun O O O=>trivial) fun Q E hQ=>call_int_1 (pQ (n:=((digitsVal (y.toList.map UInt8.toNat):Nat):Int)) (by rw[ht];exact h3) (y9 hd au h3) (by rw[ht];simp)).meets (show (Made.int _).post _ s from ⟨rfl,hQ _ _ (bD _ _)⟩)
end
namespace FZ
theorem pR:PlainAttrs "bytearray":=⟨⟨"bytearray.__getattribute__",by rw[typeLookup_type,builtinLookup_eq_fast];kernel_rfl,by decide +kernel⟩,by rw[typeLookup_type,builtinLookup_eq_fast];kernel_rfl⟩
theorem Ly:mroOf (.type "bytearray")=pure [.type "bytearray",.type "object"]:=by rw[mroOf_type];kernel_rfl
theorem Lz:typeLookup (.type "bytearray") "__new__"=pure (some (.builtin "bytearray.__new__")):=by rw[typeLookup_type,builtinLookup_eq_fast];kernel_rfl
theorem look_release:typeLookup (.type "bytearray") "__release_buffer__"=pure (some (.builtin "bytearray.__release_buffer__")):=by rw[typeLookup_type,builtinLookup_eq_fast];kernel_rfl
theorem HV:Slot "bytearray" "__init__" "bytearray.__init__":=
 .of (owner:="bytearray") (n:="__init__") (by rw[typeLookup_type,builtinLookup_eq_fast];kernel_rfl) (by decide +kernel) (by decide +kernel) (by decide +kernel)
  (by first | exact .inl (by decide +kernel) | exact .inr (by decide +kernel)) (by rw[isSubtype_type];kernel_rfl)
theorem jK:Slot "bytearray" "append" "bytearray.append":=
 .of (owner:="bytearray") (n:="append") (by rw[typeLookup_type,builtinLookup_eq_fast];kernel_rfl) (by decide +kernel) (by decide +kernel) (by decide +kernel)
  (by first | exact .inl (by decide +kernel) | exact .inr (by decide +kernel)) (by rw[isSubtype_type];kernel_rfl)
theorem called:TypeCalled "bytearray" "bytearray.__new__" "bytearray.__init__":=
 ⟨by decide +kernel,by decide +kernel,⟨_,_,Ly⟩,madeBy_type Ly Lz (by decide +kernel),by decide +kernel,by rw[isSubtype_type];kernel_rfl,HV⟩
theorem typeCall:checkTypeCall "bytearray" ⟨[],[]⟩=pure ():=by kernel_rfl
theorem Ph:checkBuiltinCall "bytearray.__new__" ⟨[.type "bytearray"],[]⟩=pure ():=by kernel_rfl
theorem HW:entryFor table "bytearray.__new__"=some Builtin.«list.__new__»:=entryFor_alias (id':="list.__new__") (by kernel_rfl) (by decide +kernel) (by decide +kernel) (by kernel_rfl)
theorem Ca:entryFor table "bytearray.__init__"=some Builtin.«bytearray.__init__»:=entryFor_of_tree (by kernel_rfl)
theorem wH:entryFor table "bytearray.append"=some Builtin.«bytearray.append»:=entryFor_of_tree (by kernel_rfl)
theorem uO:plainId "bytearray.__new__"=true:=by decide +kernel
theorem za:typeOf (.builtin "bytearray.append")=pure (.type "method_descriptor"):=by show builtinType _=_;rw[builtinType_eq_fast];kernel_rfl
theorem wI:isSubtype (.type "bytearray") (.type "bytearray")=pure true:=by rw[isSubtype_type];kernel_rfl
theorem Vz:Bytes.bindOptional "bytearray.__init__" "bytearray" ["source","encoding","errors"] [] []=pure [none,none,none]:=by kernel_rfl
theorem ends:("bytearray.__release_buffer__").endsWith ("."++"__release_buffer__")=true:=by decide +kernel
theorem drops:("bytearray.__release_buffer__").dropRight (("__release_buffer__":String).length+1)="bytearray":=by decide +kernel
end FZ
namespace FZ
theorem owner:Manifest.owners.lookup (String.ofList ['y','a','r','r','a','e','t','y','b'].reverse)=some Manifest.sig_bytearray:=by kernel_rfl
theorem HX (a:Value):argsOk "bytearray.__init__" ⟨[a],[]⟩:=by
 unfold argsOk;rw[signature?_of (id:="bytearray.__init__") (n:=['_','_','t','i','n','i','_','_']) (o:=['y','a','r','r','a','e','t','y','b']) (by kernel_rfl) owner];kernel_rfl
theorem zb (a b:Value):argsOk "bytearray.append" ⟨[a,b],[]⟩:=by
 unfold argsOk;rw[signature?_of (id:="bytearray.append") (n:=['d','n','e','p','p','a']) (o:=['y','a','r','r','a','e','t','y','b']) (by kernel_rfl) owner];kernel_rfl
end FZ
section
variable {prog:Program}{w:World}{base:Heap}{cl:dC->Value}{A:Around}{X:Addr->Prop}{E:Value->Shared->Prop}{s:Shared}
theorem Sw {Q₁:Value->Shared->Prop} (h:Q₁ (.ref s.heap.objs.size) { s with heap:=s.heap.push { cls:=.type "bytearray",data:=.bytearray #[] } }) :
  codeAny (model prog w) A (.call (.builtin "bytearray.__new__") ⟨[.type "bytearray"],[]⟩) (wants Q₁ E) s:=by
 refine codeAny_of_tree ?_
 show wpAny _ A.in1 (do checkBuiltinCall "bytearray.__new__" ⟨[.type "bytearray"],[]⟩;again (.builtin "bytearray.__new__" ⟨[.type "bytearray"],[]⟩)) _ _ s
 refine wpAny_bind (wpAny_of_eq FZ.Ph (wpAny_pure ⟨plainId_quiet FZ.uO _,codeAny_builtin_stack FZ.HW rfl fun p st=>?_⟩))
 rw[Around.under_plainId FZ.uO _]
 have mU:(("bytearray.__new__":String).splitOn ".__new__").headD ""="bytearray":=by rw[split_bytearray];rfl
 have Ba:=FZ.wI
 obtain⟨hp,g,d,tk,os⟩:=s
 dsimp only
 rw[mU]
 wp_walk
 exact h
end
section
variable {M:Model}{A:Around}{E:Value->Shared->Prop}{s:Shared}
theorem own_release {a:Addr}{o:Obj}{Q:Bool->Shared->Prop} (ho:s.heap.get? a=some o) (hc:o.cls=.type "bytearray") (h:Q false s):wpAny M A (Bytes.ownRelease (.ref a)) Q E s:=by
 have hT:s.TypeIs (.ref a) "bytearray":=⟨o,ho,hc⟩
 refine wpAny_bind (wpAny_bind (wpAny_specialOf hT FZ.look_release ?_))
 dsimp only
 rw[if_neg (by rw[FZ.ends];decide),FZ.drops]
 exact wpAny_isInstance hT FZ.wI (wpAny_pure h)
theorem pv {a:Addr}{o:Obj}{y:Array UInt8}{n:Nat}{f:Array UInt8->Array UInt8}{Q:Unit->Shared->Prop} (ho:s.heap.get? a=some o) (hd:o.data=.bytearray y n) (hz:(f y).size<=sizeLine)
  (h:Q () { s with heap:=s.heap.update a (Obj.mapBytearray f) }):wpAny M A (Bytes.write (.ref a) f) Q E s:=by
 obtain⟨c,d,dt,sl⟩:=o
 simp only at hd
 subst hd
 show wpAny _ _ (updateBytearray a f) _ _ _
 refine wpAny_bind (wpAny_load ho ?_)
 show wpAny _ _ (update a (Obj.mapBytearray f) >>= fun O=>lookBehind a) _ _ _
 refine wpAny_bind (wpAny_update ho ?_)
 refine wpAny_lookBehind (s:={ s with heap:=s.heap.update a (Obj.mapBytearray f) }) (Heap.get?_update_self (Obj.mapBytearray f) ho rfl) ?_ h
 show (if (f y).size > sizeLine then some "bytearray:memory" else none)=none
 rw[if_neg (by lia)]
theorem sy {a:Addr}{o:Obj}{y:Array UInt8}{Q:Bool->Shared->Prop} (ho:s.heap.get? a=some o) (hd:o.data=.bytearray y 0) (h:Q false s) :
  aL M A (Bytes.exported (.ref a) <||> (do return decide ((<- Bytes.exportsOf (.ref a)) > 0):Sem Bool)) Q E s:=by
 show aL M A (Bytes.exported (.ref a) >>= fun b=>_) Q E s
 refine aJ (Br ?_)
 refine (ag (wpAny_bind (m:=Bytes.exportsOf (.ref a)) ?_:wpAny M A (do return decide ((<- Bytes.exportsOf (.ref a)) > 0):Sem Bool) Q E s))
 show wpAny _ _ (load a >>= _) _ _ _
 refine wpAny_bind (wpAny_load ho ?_)
 rw[hd]
 exact wpAny_pure (wpAny_pure h)
theorem HY {a:Addr}{o:Obj}{Q:PySem.Fin->Shared->Prop} (ho:s.heap.get? a=some o) (hc:o.cls=.type "bytearray") (hd:o.data=.bytearray #[] 0)
  (h:Q (.done (.ret .none)) { s with heap:=s.heap.update a (Obj.mapBytearray fun O=>#[]) }):aL M A («bytearray.__init__» ⟨[.ref a],[]⟩) Q E s:=by
 unfold «bytearray.__init__»
 refine aJ (ag (own_release ho hc ?_))
 rw[if_neg (by decide)]
 refine eU FZ.Vz ?_
 refine eU (a:=()) rfl (eU (a:=()) rfl ?_)
 refine aJ (sy ho hd ?_)
 rw[if_neg (by decide)]
 refine aJ (ag (pv ho hd (Nat.zero_le _) ?_))
 exact aJ (aG (aG h))
theorem zc {a:Addr}{o:Obj}{y:Array UInt8}{i:Int}{t:Tok}{Q:PySem.Fin->Shared->Prop} (ho:s.heap.get? a=some o) (hd:o.data=.bytearray y 0) (h0:0<=i) (h1:i<256) (hz:y.size<sizeLine)
  (h:Q (.done (.ret .none)) { s with heap:=s.heap.update a (Obj.mapBytearray (·.push i.toNat.toUInt8)) }):aL M A («bytearray.append» ⟨[.ref a,.int i t],[]⟩) Q E s:=by
 unfold «bytearray.append»
 refine eU (a:=(.ref a,.int i t)) rfl ?_
 refine aJ (m:=Bytes.byteValue (.int i t)) ?_
 refine eU (a:=i) rfl ?_
 rw[if_neg (by simp;lia)]
 refine aG ?_
 refine aJ (m:=Bytes.checkResize (.ref a)) ?_
 refine aJ (sy ho hd ?_)
 rw[if_neg (by decide)]
 refine aG ?_
 exact aJ (ag (pv ho hd (by simp;lia) (aG h)))
end
section
variable {prog:Program}{w:World}{A:Around}{E:Value->Shared->Prop}{R:Result->Shared->Prop}{s:Shared}
theorem DB {id:String}{args:Args} (h:loud.contains id=false):calm (.builtin id args)=true:=by show (!loud.contains id||_)=true;rw[h];rfl
theorem uP {id:String}{args:Args}{b:Builtin} (hk:calm (.builtin id args)=true) (hb:entryFor table id=some b)
  (h:aL (model prog w) (A.under (.builtin id args)) (b args) (fun fin s'=>match fin with | .done f=>R (.ok f) s' | .again c'=>c'.quiet=true/\b9 (model prog w) A c' R s') (fun e s'=>R (.error e) s') s):b9 (model prog w) A (.builtin id args) R s:=by
 refine jx hk ?_
 show aL _ _ (match entryFor table id with | some b=>b args | none=>unsupported ((withoutEnding? id "#data").getD id)) _ _ s
 rw[hb];exact h
theorem jL {id:String}{args:Args}{b:Builtin} (hk:calm (.builtin id args)=true) (hq:plainId id=true) (hb:entryFor table id=some b)
  (hc:∀ {Q:Unit->Shared->Prop}{E:Value->Shared->Prop},Q () s->wpAny (model prog w) A.in1 (checkBuiltinCall id args) Q E s)
  (h:aL (model prog w) A.in1 (b args) (fun fin s'=>match fin with | .done f=>R (.ok f) s' | .again c'=>c'.quiet=true/\b9 (model prog w) A c' R s') (fun e s'=>R (.error e) s') s):b9 (model prog w) A (.call (.builtin id) args) R s:=by
 refine jx rfl ?_
 show aL _ A.in1 (do checkBuiltinCall id args;again (.builtin id args)) _ _ s
 refine aJ (ag (hc ?_))
 refine aG ⟨plainId_quiet hq _,uP hk hb ?_⟩
 rw[Around.under_plainId hq _]
 exact h
theorem ox {Q:Value->Shared->Prop} (h:Q (.ref s.heap.objs.size) { s with heap:=(s.heap.push { cls:=.type "bytearray",data:=.bytearray #[] }).update s.heap.objs.size (Obj.mapBytearray fun O=>#[]) }):aL (model prog w) A (call (.type "bytearray") []) Q E s:=by
 refine lE (jx rfl ?_)
 show aL _ A.in1 (callAny (.type "bytearray") _) _ _ _
 refine aG ⟨Code.quiet_builtin _ (by decide +kernel),uP (by decide +kernel) F.entry_type_call ?_⟩
 rw[Around.under_plain (weight_type_call_type "bytearray" [] []) rfl]
 have ft:=FZ.called
 refine bW ft.mro fun c tl Xr=>?_
 unfold «type.__call__»
 dsimp only
 rw[if_neg (by rw[ft.notType];decide)]
 rw[if_neg (by rw[ft.canCreate];decide)]
 refine eU FZ.typeCall ?_
 refine eU Xr ?_
 rw[if_neg (by simp)]
 refine eU ft.made (eU rfl ?_)
 refine aJ (aA (lE (wc (cg (Sw (E:=E) (Q₁:=fun v s₁=>v=.ref s.heap.objs.size/\s₁={ s with heap:=s.heap.push { cls:=.type "bytearray",data:=.bytearray #[] } }) ⟨rfl,rfl⟩)) fun r s₁ hr=>?_)))
 cases r with
 | error e=>exact hr
 | ok f=>
  cases f with
  | ret v=>
   refine aC hr fun aw gS=>?_;try clear hr;subst aw;subst gS
   have hg:(s.heap.push { cls:=.type "bytearray",data:=.bytearray #[] }).get? s.heap.objs.size=some { cls:=.type "bytearray",data:=.bytearray #[] }:=Heap.get?_push_size _ rfl
   have hT:({ s with heap:=s.heap.push { cls:=.type "bytearray",data:=.bytearray #[] } }:Shared).TypeIs (.ref s.heap.objs.size) "bytearray":=⟨_,hg,rfl⟩
   refine aJ (ag (wpAny_isInstance hT FZ.wI ?_))
   rw[if_neg (by decide)]
   refine aJ (aA (m:=callSpecial? (.ref s.heap.objs.size) (Str.ofString "__init__")) ?_)
   unfold callSpecial?
   refine aJ (ag (wpAny_specialOf hT ft.init.lookup ?_))
   refine aA (eU (ft.init.bind _) ?_)
   refine aJ (lE (jL (DB (by decide +kernel)) ft.init.plain FZ.Ca (fun {Q E} hq=>ft.init.check _ _ _ _ _ _ _ _ hT (FZ.HX _) hq) (HY hg rfl rfl ?_)))
   exact aG (aG h)
  | _=>exact hr.elim
end
section
variable {prog:Program}{w:World}{base:Heap}{cl:dC->Value}{A:Around}{X:Addr->Prop}{s:Shared}{D:Fn->List V->R V}{n:Nat}{sc:Scope}{j:List (PySem.Str × Nat)}{K:Frag}{ec:Env}{J:Ρ}{h₀:Heap}
theorem Pj {fr:Bool}{np pos:Pos} (W:Wd K base) (hk:sc.names.lookup (Str.ofString "bytearray")=some .globalImplicit) (hg:nsIn K mainGlobals (Str.ofString "bytearray")=some none) (hb:bootBuiltins (Str.ofString "bytearray")=some (.type "bytearray")) :
  aM prog w base cl D n fr sc j (.Call (.Name (Str.ofString "bytearray") np) [] [] pos) (.prim .cj .nil):=fun A X ec J s a Q E po au=>by
 refine dA (ag (cJ W a.cx.stays a.ge a.scope hk hg hb ?_ (by decide) (by decide)))
 refine dQ rfl (yx (ox ?_))
 have hg:(s.heap.push { cls:=.type "bytearray",data:=.bytearray #[] }).get? s.heap.objs.size=some { cls:=.type "bytearray",data:=.bytearray #[] }:=Heap.get?_push_size _ rfl
 have kp:Kept base s.heap ((s.heap.push { cls:=.type "bytearray",data:=.bytearray #[] }).update s.heap.objs.size (Obj.mapBytearray fun O=>#[])):=
  (Kept.push base s.heap _).extBut (bV _) (Heap.SameBut.update ..).extBut
 have Xo:=Heap.get?_update_self (Obj.mapBytearray fun O=>#[]) hg rfl
 have own:bE ((s.heap.push { cls:=.type "bytearray",data:=.bytearray #[] }).update s.heap.objs.size (Obj.mapBytearray fun O=>#[])) X s.heap.objs.size (.cj []):=
  ⟨_,#[],0,Xo,rfl,rfl,rfl,rfl,rfl,Nat.zero_le _⟩
 exact po.ok (.cj []) _ _ _ (by rfl) kp (own.rep (a.low.none (bV _))) fun O=>⟨_,rfl,bV _,own⟩
set_option tactic.hygienic true in
theorem bL.push {f1:Bool}{x:PySem.Str}{px ap cp pos:Pos}{e:Expr}{p:PE}{i:Nat}{σ':List (PySem.Str × Nat)} (he:aM prog w base cl D n f1 sc j e p) (kg:j.lookup x=some i) (gh:notStar e=true)
  (hline:(ap.endLine == cp.line)=true)
  (hd:(x == ("__debug__":PySem.Str))=false) (hc:(x == ("__classdict__":PySem.Str))=false)
  (HF:∀ env,swapsWith (.Call (.Attribute (.Name x px) "append" ap) [e] [] cp) none pos.line env=pure false):bL prog w base cl D n (some i) (some i) sc j (.Expr (.Call (.Attribute (.Name x px) "append" ap) [e] [] cp) pos) (.push i p):=fun A X ec J h₀ s ow ho st Q E po au=>by
 refine Exists.elim (hG ho) fun a aw=>?_;subst aw
 cases q:J[i]? with
 | none=>rw[uX,q] at au;exact absurd rfl au
 | some o=>
  cases o with
  | none=>rw[uX,q] at au;exact absurd rfl au
  | some dl=>
   cases dl<;>first | (rw[uX,q] at au;exact absurd rfl au) | skip
   ·rename_i xs
    rw[uX,q] at po au
    have Ou:∀ env,starEach [e] env=[(false,eval e env)]:=fun env=>aS gh
    refine Bv (gB rfl (by rw[Ou];rfl) hline ?_) (by unfold interactive;rw[st.at'.ge.kind];rfl) (HF ec)
    refine (ag (lL (h:=s.heap) st kg q hd hc fun vl Dv=>?_))
    refine aC Dv.own fun aw mU=>?_;try clear Dv;subst aw
    refine eR (id mU) fun o y nn zz=>Wo zz fun g c dn Xg hn hy hl=>?_
    refine⟨"bytearray","bytearray.append",FZ.pR,FZ.jK,FZ.za,⟨o,g,c⟩,fun b hb=>⟨o,by injection hb with hb;subst hb;exact g,dn⟩,?_⟩
    rw[Ou]
    refine cu rfl (c6 (cS (he A X ec J s st.freeze.at' _ _ ⟨fun d v aj tk e₁ k rp O=>(ag (spliced_nil ?_)),po.ex st⟩ (fW au))))
    have aq:=fz au e₁
    have cL:=po.step (h:=aj) (tk:=tk) e₁
    obtain⟨kk,rfl⟩:∃ kk,d=.int kk:=by cases d<;>first | exact⟨_,rfl⟩ | exact absurd rfl aq
    dsimp only at cL aq
    by_cases s9:0<=kk/\kk<256/\xs.length<lim
    ·rw[if_pos s9] at cL
     refine aQ rp fun t=>?_
     have cv:=st.kept k
     refine eR (mU.kept k) fun pJ O4 n₁ zz=>Wo zz fun g₁ c₁ Dx yT VA QK Qs=>?_
     subst VA
     have ka:O4.size=xs.length:=bf QK
     have Qw:lim<=16777215:=by decide
     have hT:({ s with heap:=aj,toks:=tk }:Shared).TypeIs (.ref a) "bytearray":=⟨pJ,g₁,c₁⟩
     refine lE (jL (DB (by decide +kernel)) FZ.jK.plain FZ.wH (fun {Q E} hq=>FZ.jK.check _ _ _ _ _ _ _ _ hT (FZ.zb _ _) hq) (zc (s:={ s with heap:=aj,toks:=tk }) g₁ yT s9.1 s9.2.1 (by have:=bu;omega) ?_))
     obtain⟨cc,dd,dt,sl⟩:=pJ
     simp only at c₁ Dx yT
     subst yT c₁ Dx
     have Si:=Heap.get?_update_self (Obj.mapBytearray (·.push kk.toNat.toUInt8)) g₁ rfl
     refine cL.next _ (some (i,a)) _ tk rfl rfl (cv.turn (y:=x) (Heap.SameBut.update ..).extBut ?_ kg q)
     refine⟨_,O4.push kk.toNat.toUInt8,0,Si,rfl,rfl,rfl,rfl,?_,by simp;omega⟩
     rw[Array.toList_push,List.map_append,QK]
     congr 1
     show [(kk.toNat.toUInt8).toNat]=[kk.toNat]
     rw[Nat.toUInt8_eq,UInt8.toNat_ofNat']
     congr 1
     lia
    ·rw[if_neg s9] at aq;exact absurd rfl aq
end
namespace FZ
theorem LB:typeLookup (.type "bytearray") "__bytes__"=pure none:=by rw[typeLookup_type,builtinLookup_eq_fast];kernel_rfl
theorem Pk:typeLookup (.type "bytearray") "__index__"=pure none:=by rw[typeLookup_type,builtinLookup_eq_fast];kernel_rfl
theorem look_buffer:typeLookup (.type "bytearray") "__buffer__"=pure (some (.builtin "bytearray.__buffer__")):=by rw[typeLookup_type,builtinLookup_eq_fast];kernel_rfl
theorem Sx:("bytearray.__buffer__").endsWith ("."++"__buffer__")=true:=by decide +kernel
theorem Pl:("bytearray.__buffer__").dropRight (("__buffer__":String).length+1)="bytearray":=by decide +kernel
end FZ
section
variable {prog:Program}{w:World}{base:Heap}{cl:dC->Value}{A:Around}{X:Addr->Prop}{s:Shared}
theorem HZ {id:String}{b:Bool}{a:Addr}{o:Obj}{y:Array UInt8}{n:Nat}{M:Model}{E:Value->Shared->Prop}{Q:Option (Array UInt8)->Shared->Prop} (ho:s.heap.get? a=some o) (hc:o.cls=.type "bytearray") (hd:o.data=.bytearray y n) (h:Q (some y) s) :
  wpAny M A (Bytes.buffer? id (.ref a) b) Q E s:=by
 have hT:s.TypeIs (.ref a) "bytearray":=⟨o,ho,hc⟩
 unfold Bytes.buffer?
 refine wpAny_bind (wpAny_specialOf hT FZ.look_buffer ?_)
 dsimp only
 refine wpAny_bind ?_
 unfold Bytes.slotIsOwn
 refine wpAny_bind (wpAny_specialOf hT FZ.look_buffer ?_)
 dsimp only
 rw[if_neg (by rw[FZ.Sx];decide),FZ.Pl]
 refine wpAny_isInstance hT FZ.wI ?_
 rw[if_neg (by decide)]
 refine wpAny_bind (wpAny_specialOf hT FZ.look_buffer ?_)
 refine wpAny_bind (own_release ho hc ?_)
 rw[if_neg (by decide)]
 refine wpAny_bind (wpAny_bind ?_)
 show wpAny _ _ (load a >>= _) _ _ _
 refine wpAny_bind (wpAny_load ho ?_)
 rw[hd]
 exact wpAny_pure (wpAny_pure (wpAny_pure h))
theorem wJ {a:Addr}{o:Obj}{y:Array UInt8}{n:Nat}{R:Result->Shared->Prop} (ho:s.heap.get? a=some o) (hc:o.cls=.type "bytearray") (hd:o.data=.bytearray y n) (hz:y.size<=sizeLine)
  (hR:R (.ok (.ret (.bytes y s.toks))) { s with toks:=s.toks+1 }):codeAny (model prog w) A (.call (.builtin "bytes.__new__") ⟨[.type "bytes",.ref a],[]⟩) R s:=by
 refine codeAny_of_tree ?_
 show wpAny _ A.in1 (do checkBuiltinCall "bytes.__new__" ⟨[.type "bytes",.ref a],[]⟩;again (.builtin "bytes.__new__" ⟨[.type "bytes",.ref a],[]⟩)) _ _ s
 refine wpAny_bind (wpAny_of_eq (F.bm_newCall _) (wpAny_pure ⟨plainId_quiet F.bm_plain _,codeAny_builtin F.bm_entry ?_⟩))
 rw[Around.under_plainId F.bm_plain _]
 have hT:s.TypeIs (.ref a) "bytearray":=⟨o,ho,hc⟩
 unfold Builtin.«bytes.__new__»
 refine wpAny_bind (wpAny_of_eq (a:=true) rfl ?_)
 refine bm_if_false rfl ?_
 refine wpAny_bind (wpAny_of_eq F.bm_sub ?_)
 refine bm_if_false rfl ?_
 refine wpAny_bind (wpAny_of_eq (F.bm_bind _) ?_)
 refine wpAny_bind (wpAny_of_eq (a:=()) rfl ?_)
 refine wpAny_bind (wpAny_of_eq (a:=()) rfl ?_)
 refine bm_if_false rfl ?_
 refine wpAny_bind (wpAny_specialOf hT FZ.LB ?_)
 refine wpAny_bind (wpAny_bind ?_)
 show wpAny _ _ (load a >>= _) _ _ _
 refine wpAny_bind (wpAny_load ho ?_)
 rw[hd]
 refine wpAny_pure (wpAny_pure ?_)
 refine bm_if_false rfl ?_
 refine wpAny_bind (wpAny_specialOf hT FZ.Pk ?_)
 refine bm_if_true rfl ?_
 first
  | show wpAny _ _ (Builtin.Bytes.buffer? "bytes.__new__" (.ref a) true >>= _) _ _ _
  | (refine wpAny_bind ?_;show wpAny _ _ (Builtin.Bytes.buffer? "bytes.__new__" (.ref a) true >>= _) _ _ _)
 refine wpAny_bind (HZ ho hc hd ?_)
 refine wpAny_bind (wpAny_rule (wpAny_bind (wpAny_mkBytes ?_ hz)))
 first
  | show wpAny _ _ (if (Value.type "bytes" == Value.type "bytes")=true then _ else _) _ _ _
  | (refine wpAny_bind ?_;show wpAny _ _ (if (Value.type "bytes" == Value.type "bytes")=true then _ else _) _ _ _)
 refine bm_if_true (by decide) ?_
 first
  | exact wpAny_pure hR
  | exact wpAny_bind (wpAny_pure (wpAny_pure hR))
theorem Cd (HG:cl .value=.type "ValueError"):fc prog w base cl false (.type "bytes") .bytes:=fun A X s ds vs hh hu hl r=>by
 cases ds with
 | nil=>exact .stuck
 | cons d ds=>
 cases d<;>cases ds<;>try exact .stuck
 rotate_left
 ·refine Exists.elim (eA r) fun v zz=>aC zz fun aw r1=>?_;clear zz;subst aw
  exact bytes_list (prog:=prog) (w:=w) (base:=base) (cl:=cl) (A:=A) HG hh r1
 ·refine Exists.elim (eA r) fun v zz=>aC zz fun aw r1=>?_;clear zz;subst aw
  refine kR r1 fun a o y n zz=>Wo zz fun aw ho hc hd hn hy hx=>?_;clear zz;try clear r1;subst aw
  have hz:=bf hy
  exact Ev.val fun Q E hQ=>su (wJ ho.1 hc hd (by have:=bu;lia) ⟨rfl,hQ _ _ _ (.refl _ _) (dH _ hy hx) fun O=>trivial⟩)
end
noncomputable def dS:PySem.Str:=⟨#[48,50,120]⟩
theorem pS {v:Value}{k:String->Sem PySem.Fin}{m:Made} (h:∀ (M:Model) (A:Around) (E:Value->Shared->Prop) (s:Shared) (Q:String->Shared->Prop),(∀ n,Q n s)->wpAny M A (typeNameOfCut 200 v) Q E s) (g:∀ n,Gives (k n) m):Gives (typeNameOfCut 200 v >>= k) m:=
 fun prog w A R s hq=>wpAny_bind (h _ _ _ _ _ fun n=>g n prog w A R s hq)
theorem Pm {a:Int}{t:Tok} (M:Model) (A:Around) (E:Value->Shared->Prop) (s:Shared) (Q:String->Shared->Prop) (h:∀ n,Q n s):wpAny M A (typeNameOfCut 200 (.int a t)) Q E s:=wpAny_pure (h _)
theorem gives_retStr (y:PySem.Str):Gives (retStr y) (.str y):=.of_eq rfl
theorem H0 (a:Nat) (ha:a<256) (t u:Tok):∃ y:PySem.Str,Gives (Builtin.«int.__format__» ⟨[.int a t,.str dS u],[]⟩) (.str y)/\y.cps.toList=[dE (a / 16),dE (a % 16)]:=by
 obtain⟨f,hf⟩:∃ f:Float.FormatSpec,f={ fill:=48,align:=61,width:=some 2,type:=some 120 }:=⟨_,rfl⟩
 have hp:∀ n,Float.parseFormatSpec dS.cps.toList n 62=.ok f:=fun n=>by rw[hf];rfl
 have h1:f.precision=none:=by rw[hf]
 have h2:f.noNeg0=false:=by rw[hf]
 have h3:f.width=some 2:=by rw[hf]
 have h4:f.type=some 120:=by rw[hf]
 refine⟨?_,?_,?_⟩
 rotate_left
 ·unfold Builtin.«int.__format__»
  have e1:selfAndOne "int.__format__" ⟨[.int a t,.str dS u],[]⟩=pure (.int a t,.str dS u):=rfl
  rw[e1,pure_bind]
  dsimp only
  rw[show Int.intOfSelf (.int a t)=pure (a:Int) from rfl,pure_bind,if_neg (show ¬ (Value.str dS u == Value.none)=true from Bool.false_ne_true)]
  refine gives_after_typeNameOf (T:="str") (fun s=>typeIs_str s _ _) (by decide) fun O=>?_
  rw[show asStr? (Value.str dS u)=pure (some dS) from rfl,pure_bind]
  dsimp only
  rw[if_neg (by decide),if_neg (by decide)]
  refine pS Pm fun n=>?_
  rw[hp]
  dsimp only
  rw[if_pos (by rw[h4];decide +kernel)]
  show Gives (ite (f.precision.isSome=true) _ _) _
  rw[if_neg (by rw[h1];decide)]
  show Gives (ite (f.noNeg0=true) _ _) _
  rw[if_neg (by rw[h2];decide)]
  show Gives (ite ((f.type.getD (if (dS.cps.back? == some 0)=true then 0 else 100) == 99)=true) _ _) _
  rw[if_neg (by rw[h4];decide)]
  rw[h4,if_neg (by decide),if_neg (by decide),if_pos (by decide)]
  dsimp only
  rw[if_neg (by decide),if_neg (by rw[h3];decide)]
  with_reducible exact gives_retStr _
 ·subst hf
  revert a
  decide +kernel
section
variable {M:Model}{A:Around}{E:Value->Shared->Prop}{s:Shared}{env:Env}
theorem zf {value:Expr}{pos:Pos}{Q:Value->Shared->Prop} (h:aL M A (eval value env) (fun v s₁=>wpAny M A (formatField v PySem.Str.empty) Q E s₁) E s):aL M A (eval (.FormattedValue value (-1) none pos) env) Q E s:=by
 rw[arm_eval_FormattedValue]
 refine ay h fun v s₁ aj=>av ?_
 show aL _ _ (do let v' <- holding [v] (pure v);formatField v' PySem.Str.empty) Q E s₁
 exact aJ (aA (aG (ag aj)))
theorem pT {value:Expr}{sp:PySem.Str}{k:Nat}{Sy VB pos:Pos}{Q:Value->Shared->Prop} (h:aL M A (eval value env) (fun v s₁=>wpAny M A (formatField v sp) Q E { s₁ with toks:=s₁.toks+1 }) E s) :
  aL M A (eval (.FormattedValue value (-1) (some (.JoinedStr [.Constant (.str sp) k Sy] VB)) pos) env) Q E s:=by
 rw[arm_eval_FormattedValue]
 refine ay h fun v s₁ aj=>av ?_
 show aL _ _ (do
  let v' <- holding [v] (pure v)
  let r <- holding [v'] (eval (.JoinedStr [.Constant (.str sp) k Sy] VB) env)
  match r with
  | .str sp _=>(do standAt pos;formatField v' sp)
  | _=>unsupported "internal:format-spec") Q E s₁
 refine aJ (aA (aG (aJ (aA (ag ?_)))))
 rw[arm_eval_JoinedStr]
 show wpAny _ _ (eval (.Constant (.str sp) k Sy) env) _ _ _
 exact Constant_str (av (ag aj))
end
noncomputable def Pn (f:PX) (v:V):R V:=(sQ f v).bind fun l=>.ok (V.str l)
section
variable (prog:Program) (w:World) (base:Heap) (cl:dC->Value) (D:Fn->List V->R V) (n:Nat)
def tA (sc:Scope) (j:List (PySem.Str × Nat)) (e:Expr) (f:PX) (p:PE):Prop:=
 ∀ (A:Around) (X:Addr->Prop) (ec:Env) (J:Ρ) (s:Shared),At base n A X none sc j ec J s.heap->kM prog w base cl A X false (eval e ec) s ((ao D p J).bind (Pn f))
def jM (sc:Scope) (j:List (PySem.Str × Nat)) (es:List Expr) (ps:CJ):Prop:=
 ∀ (A:Around) (X:Addr->Prop) (ec:Env) (J:Ρ) (s:Shared) (acc:PySem.Str),At base n A X none sc j ec J s.heap->acc.length+100000*es.length<=10000000->∀ (Q E:Value->Shared->Prop),
  (∀ l out h' tk,gJ D ps J=.ok l->Kept base s.heap h'->out.cps.toList=acc.cps.toList++l->out.length<=10000000->Q (.str out tk) { s with heap:=h',toks:=tk+1 })->Ex base cl s (gJ D ps J) E->gJ D ps J≠.stuck->
  aL (model prog w) A (joinParts acc (evalEach es ec)) Q E s
end
section
variable {prog:Program}{w:World}{base:Heap}{cl:dC->Value}{A:Around}{X:Addr->Prop}{s:Shared}{D:Fn->List V->R V}{n:Nat}{sc:Scope}{j:List (PySem.Str × Nat)}{K:Frag}
set_option tactic.hygienic true in
theorem Sz {f:PX}{d:V}{v:Value} (hf:f=.plain) (r:Rep (seen X s.heap) d v):Ev prog w base cl A X false (formatField v PySem.Str.empty) s (Pn f d):=by
 subst hf
 cases d<;>first | exact .stuck | skip
 ·rename_i i
  refine aQ r fun t=>?_
  show Ev prog w base cl A X false _ s ((R.guard _ _).bind _)
  by_cases hg:i.natAbs.log2<1920
  ·have e:((R.guard (decide (i.natAbs.log2<1920)) (.ok (bI i))).bind fun l=>(.ok (.str l):R V))=.ok (.str (bI i)):=by simp[R.guard,hg,R.bind]
   rw[e]
   have hz:=int_text_fits hg
   exact Ev.flat (fun O O O=>trivial) fun Q E hQ=>wpAny_formatField_int hg (hQ _ _ (c9 _ (qe i) (by
    rw[<- qe i]
    rw[show sizeLine=16777216 from rfl] at hz
    simpa [PySem.Str.length] using hz)))
  ·have e:((R.guard (decide (i.natAbs.log2<1920)) (.ok (bI i))).bind fun l=>(.ok (.str l):R V))=.stuck:=by simp[R.guard,hg,R.bind]
   rw[e];exact .stuck
 ·rename_i l
  refine cH r fun y t e h=>?_
  have hy:=str_len e
  exact Ev.flat (fun O O O=>trivial) fun Q E hQ=>wpAny_formatField_str (hQ _ s.toks (c9 t e h)) (hQ _ _ (c9 _ e h)) (by have:=bu;lia)
set_option tactic.hygienic true in
theorem Pp {d:V}{v:Value} (r:Rep (seen X s.heap) d v):Ev prog w base cl A X false (formatField v dS) s (Pn .uU d):=by
 cases d<;>first | exact .stuck | skip
 rename_i i
 refine aQ r fun t=>?_
 show Ev prog w base cl A X false _ s ((if 0<=i/\i<256 then R.ok [dE (i.toNat / 16),dE (i.toNat % 16)] else .stuck).bind _)
 by_cases hg:0<=i/\i<256
 ·rw[if_pos hg]
  refine Exists.elim (Int.eq_ofNat_of_zero_le hg.1) fun m aw=>?_;subst aw
  have hm:m<256:=by omega
  refine Ev.flat (fun O O O=>trivial) fun Q E hQ=>?_
  have key:∀ u,Gives (Builtin.«int.__format__» ⟨[.int m t,.str dS u],[]⟩) (.str ⟨#[dE (m / 16),dE (m % 16)]⟩):=fun u=>by
   refine Exists.elim (H0 m hm t u) fun y zz=>aC zz fun g e=>?_
   have:y=⟨#[dE (m / 16),dE (m % 16)]⟩:=by
    obtain⟨cps⟩:=y
    congr 1
    exact Array.toList_inj.mp e
   exact this ▸ g
  exact wpAny_formatField_spec (by decide) (fun s'=>typeIs_int s' _ _) F.slot_int_format F.entry_int_format F.args_int_format_2 key (hQ _ _ (c9 _ rfl (by simp))) (by decide) (by show 2<=_;decide)
 ·rw[if_neg hg];exact .stuck
theorem tA.plain {f1:Bool}{e:Expr}{pos:Pos}{p:PE} (h:aM prog w base cl D n f1 sc j e p):tA prog w base cl D n sc j (.FormattedValue e (-1) none pos) .plain p:=fun A X ec J s x Q E po au=>
 zf (h A X ec J s x _ _ ⟨fun d v aj tk e₁ k rp O=>Sz (s:={ s with heap:=aj,toks:=tk }) rfl rp _ _ (po.step e₁ k) (R.aZ au e₁),po.ex.of⟩ (R.aN au))
theorem tA.uU {f1:Bool}{e:Expr}{pos jp cp:Pos}{k:Nat}{p:PE}{sp:PySem.Str} (h:aM prog w base cl D n f1 sc j e p) (GJ:sp=dS):tA prog w base cl D n sc j (.FormattedValue e (-1) (some (.JoinedStr [.Constant (.str sp) k cp] jp)) pos) .uU p:=fun A X ec J s x Q E po au=>by
 subst GJ
 exact pT (h A X ec J s x _ _ ⟨fun d v aj tk e₁ k rp O=>Pp (s:={ s with heap:=aj,toks:=tk+1 }) rp _ _ (po.step (tk:=tk+1) e₁ k) (R.aZ au e₁),po.ex.of⟩ (R.aN au))
theorem tA.text {x:PySem.Str}{l:List Nat}{k:Nat}{pos:Pos} (e:x.cps.toList=l:=by rfl) (hl:l.length<=16777216:=by decide):tA prog w base cl D n sc j (.Constant (.str x) k pos) .plain (.const (.str l)):=fun A X ec J s at' Q E po au=>by
 have:=aM.str (prog:=prog) (w:=w) (base:=base) (cl:=cl) (D:=D) (n:=n) (sc:=sc) (j:=j) (fr:=false) (k:=k) (pos:=pos) e hl A X ec J s at'
 exact this Q E po au
theorem jM.nil:jM prog w base cl D n sc j [] .nil:=fun A X ec J s acc x hl Q E hQ hE au=>by
 show aL _ _ (mkStr acc) _ _ _
 have:=bu
 exact (ag (wpAny_mkStr (hQ [] acc s.heap s.toks (by rw[Mw]) (.refl _ _) (by simp) (by simp at hl;lia)) (by simp at hl;lia)))
theorem jM.cons {e:Expr}{r:List Expr}{f:PX}{p:PE}{ps:CJ} (h:tA prog w base cl D n sc j e f p) (h':jM prog w base cl D n sc j r ps):jM prog w base cl D n sc j (e::r) (.cons p f ps):=fun A X ec J s acc x hl Q E hQ hE au=>by
 have e0:gJ D (.cons p f ps) J=((ao D p J).bind (Pn f)).bind fun d=>match d with
  | .str l=>R.guard (decide (l.length<=100000)) ((gJ D ps J).bind fun t=>.ok (l++t))
  | _=>.stuck:=by
  rw[Mx]
  cases ao D p J with
  | ok v=>show (sQ f v).bind _=((sQ f v).bind _).bind _;cases sQ f v<;>rfl
  | exc z=>rfl
  | stuck=>rfl
 rw[e0] at hQ hE au
 show aL _ _ (joinParts acc (eval e ec::evalEach r ec)) _ _ _
 rw[joinParts]
 refine aJ (h A X ec J s x _ _ ⟨fun d v aj tk e₁ k rp hf=>?_,hE.of⟩ (R.aN au))
 clear hf
 have aq:=R.aZ au e₁
 obtain⟨l,rfl⟩:∃ l,d=.str l:=by cases d<;>first | exact⟨_,rfl⟩ | exact absurd rfl aq
 dsimp only at aq
 have hg:=R.mQ aq
 rw[R.guard,hg,if_pos rfl] at aq
 simp only[decide_eq_true_eq] at hg
 refine cH rp fun y t ey Sp=>?_
 have hy:=str_len ey
 refine eU rfl ?_
 have VC:(acc++y).cps.toList=acc.cps.toList++l:=by rw[<- ey];exact Array.toList_append
 have hal:(acc++y).length=acc.length+y.length:=str_len (by rw[VC]) |>.trans (by rw[List.length_append,<- hy];congr 1)
 have hline:=bu
 simp only[List.length_cons] at hl
 dsimp only
 rw[if_neg (by omega)]
 refine h' A X ec J { s with heap:=aj,toks:=tk } (acc++y) (x.kept k) (by omega) Q E (fun Xu out aE bF bM k₂ eo ho=>?_) (fun z bM aE bF q k₂ Sj=>?_) (R.aN aq)
 ·refine hQ (l++Xu) out aE bF ?_ (k.trans k₂) (by rw[eo,VC,List.append_assoc]) ho
  rw[R.bP e₁]
  dsimp only
  rw[R.guard,if_pos (by simpa using hg),bM];rfl
 ·refine hE z bM aE bF ?_ (k.trans k₂) (Sj.elder k)
  rw[R.bP e₁]
  dsimp only
  rw[R.guard,if_pos (by simpa using hg),q];rfl
theorem Pq {fr:Bool}{e₁ bM:Expr}{r:List Expr}{pos:Pos}{ps:CJ} (h:jM prog w base cl D n sc j (e₁::bM::r) ps) (hl:r.length<=90:=by decide):aM prog w base cl D n fr sc j (.JoinedStr (e₁::bM::r) pos) (.qm ps):=fun A X ec J s x Q E po au=>by
 rw[Mv] at po au
 rw[arm_eval_JoinedStr]
 show aL _ _ (joinParts PySem.Str.empty (evalEach (e₁::bM::r) ec)) Q E s
 refine h A X ec J s PySem.Str.empty x (by simp[PySem.Str.empty,PySem.Str.length];lia) Q E (fun l out h' tk e k eo ho=>?_) po.ex.of (R.aN au)
 refine po.ok (.str l) _ h' _ (by rw[e];rfl) k (c9 _ (by rw[eo];rfl) ?_) fun O=>trivial
 have:out.length=l.length:=str_len (by rw[eo];rfl)
 lia
end
end
section
variable {M:Model}{A:Around}{E:Value->Shared->Prop}{s:Shared}
theorem Ce {e spec te:Value}{b:Bool}{Q:Bool->Shared->Prop} (hi:∀ {Q:Bool->Shared->Prop},Q false s->wpAny M A (isInstance spec (.type "tuple")) Q E s) (hx:∀ {Q:Bool->Shared->Prop},Q true s->wpAny M A (isExcClass spec) Q E s)
  (ht:∀ {Q:Value->Shared->Prop},Q te s->wpAny M A (typeOf e) Q E s) (hs:∀ {Q:Bool->Shared->Prop},Q b s->wpAny M A (isSubtype te spec) Q E s) (h:Q b s):wpAny M A (excMatches e spec) Q E s:=by
 refine wpAny_bind (hi ?_)
 rw[if_neg Bool.false_ne_true]
 refine wpAny_bind (wpAny_pure ?_)
 simp only[List.forIn_cons,List.forIn_nil]
 refine wpAny_bind (wpAny_bind (wpAny_bind (hx ?_)))
 simp only[Bool.not_true,Bool.false_eq_true,if_false]
 refine wpAny_pure (wpAny_pure ?_)
 refine wpAny_bind (ht ?_)
 refine wpAny_bind (wpAny_bind (wpAny_bind (hs ?_)))
 cases b
 ·simp only[Bool.false_eq_true,if_false]
  exact wpAny_pure (wpAny_pure (wpAny_pure h))
 ·simp only[if_true]
  exact wpAny_pure (wpAny_pure (wpAny_pure h))
def pw (h:Heap) (C:Addr) (mro:List Value):Prop:=∃ o cd,h.get? C=some o/\o.cls=.type "type"/\o.data=.cls cd/\cd.mro=mro
theorem DC {C:Addr}{v:Value}{mro:List Value}{base:Value}{Q:Bool->Shared->Prop} (o:pw s.heap C (v::mro)) (h:Q ((v::mro).contains base) s):wpAny M A (isSubtype (.ref C) base) Q E s:=by
 refine bW o fun o cd zz=>iZ zz fun ho hc hd hm=>?_
 refine wpAny_bind (wpAny_bind (wpAny_bind (wpAny_loadPart ho ?_)))
 rw[hd]
 refine wpAny_pure (wpAny_pure ?_)
 dsimp only
 rw[hm,if_neg (by simp)]
 exact wpAny_pure h
theorem tB {C:Addr}{mro:List Value}{Q:Bool->Shared->Prop} (o:pw s.heap C mro) (h:Q false s):wpAny M A (isInstance (.ref C) (.type "tuple")) Q E s:=by
 refine bW o fun o cd zz=>iZ zz fun ho hc hd hm=>?_
 have hT:s.TypeIs (.ref C) "type":=⟨o,ho,hc⟩
 exact wpAny_isInstance hT (show isSubtype (.type "type") (.type "tuple")=pure false by rw[isSubtype_type];kernel_rfl) h
theorem Pr {C:Addr}{v:Value}{mro:List Value}{Q:Bool->Shared->Prop} (o:pw s.heap C (v::mro)) (hb:(v::mro).contains (.type "BaseException")=true) (h:Q true s):wpAny M A (isExcClass (.ref C)) Q E s:=by
 refine bW (id o) fun ob cd zz=>iZ zz fun ho hc hd hm=>?_
 refine wpAny_bind (m:=isType (.ref C)) (wpAny_bind (wpAny_loadPart ho (wpAny_pure ?_)))
 rw[hd]
 simp only[if_true]
 exact DC o (by rw[hb];exact h)
theorem gG {T U:String}{Q:Bool->Shared->Prop} (hm:((Manifest.find? T).elim "type" fun x=>x.metatype)=U) (hU:isSubtype (.type U) (.type "tuple")=pure false) (h:Q false s):wpAny M A (isInstance (.type T) (.type "tuple")) Q E s:=by
 refine wpAny_bind (m:=typeOf (.type T)) (wpAny_pure ?_)
 rw[hm]
 exact wpAny_of_eq hU h
theorem wK {T:String}{Q:Bool->Shared->Prop} (hs:isSubtype (.type T) (.type "BaseException")=pure true) (h:Q true s):wpAny M A (isExcClass (.type T)) Q E s:=by
 refine wpAny_bind (m:=isType (.type T)) (wpAny_pure ?_)
 simp only[if_true]
 exact wpAny_of_eq hs h
end
noncomputable def dB:dC->Value
 | .syntax=>.ref 49
 | .value=>.type "ValueError"
 | .bX=>.type "NotImplementedError"
noncomputable def H3:Hc->Value
 | .exception=>.type "Exception"
 | .tF=>.ref 37
 | .tooBig=>.ref 73
 | .kr=>.ref 61
 | .ig=>.ref 24
 | .kS=>.type "ValueError"
 | .notImplemented=>.type "NotImplementedError"
noncomputable def Cg:Nat->List Value
 | 49=>[.ref 49,.ref 24,.type "Exception",.type "BaseException",.type "object"]
 | 24=>[.ref 24,.type "Exception",.type "BaseException",.type "object"]
 | 37=>[.ref 37,.ref 24,.type "Exception",.type "BaseException",.type "object"]
 | 61=>[.ref 61,.ref 49,.ref 24,.type "Exception",.type "BaseException",.type "object"]
 | 73=>[.ref 73,.ref 24,.type "Exception",.type "BaseException",.type "object"]
 | _=>[]
structure Wk (base:Heap):Prop where
 own:∀ C∈[49,24,37,61,73],pw base C (Cg C)
theorem pw.keeps {h h':Heap}{C:Addr}{m:List Value} (o:pw h C m) (k:h.StaysIn h'):pw h' C m:=by
 refine bW o fun o cd zz=>aC zz fun ho r=>?_
 exact⟨o,cd,k _ _ ho,r⟩
section
variable {prog:Program}{w:World}{base:Heap}{A:Around}{E:Value->Shared->Prop}{s:Shared}
theorem VD {e:Addr}{oe:Obj}{c:Value}{Q:Value->Shared->Prop}{M:Model} (he:s.heap.get? e=some oe) (hc:oe.cls=c) (h:Q c s):wpAny M A (typeOf (.ref e)) Q E s:=by
 subst hc
 exact wpAny_bind (wpAny_loadPart he (wpAny_pure h))
theorem Pt {M:Model}{X:String}{c:Value}{b:Bool}{Q:Bool->Shared->Prop} (e:isSubtype (.type X) c=pure b) (h:Q b s):wpAny M A (isSubtype (.type X) c) Q E s:=wpAny_of_eq e h
theorem VF (W:Wk base) (st:base.StaysIn s.heap) {M:Model} (hc:Hc):(∀ {Q:Bool->Shared->Prop},Q false s->wpAny M A (isInstance (H3 hc) (.type "tuple")) Q E s)/\(∀ {Q:Bool->Shared->Prop},Q true s->wpAny M A (isExcClass (H3 hc)) Q E s):=by
 have own:∀ C∈[49,24,37,61,73],(∀ {Q:Bool->Shared->Prop},Q false s->wpAny M A (isInstance (.ref C) (.type "tuple")) Q E s)/\(∀ {Q:Bool->Shared->Prop},Q true s->wpAny M A (isExcClass (.ref C)) Q E s):=fun C hC=>by
  have o:=(W.own C hC).keeps st
  refine⟨fun h=>tB o h,fun h=>?_⟩
  simp only[List.mem_cons,List.not_mem_nil,or_false] at hC
  rcases hC with rfl | rfl | rfl | rfl | rfl<;>exact Pr o (by decide) h
 cases hc
 ·exact⟨fun h=>gG (U:="type") (by kernel_rfl) (by rw[isSubtype_type];kernel_rfl) h,fun h=>wK (by rw[isSubtype_type];kernel_rfl) h⟩
 ·exact own 37 (by decide)
 ·exact own 73 (by decide)
 ·exact own 61 (by decide)
 ·exact own 24 (by decide)
 ·exact⟨fun h=>gG (U:="type") (by kernel_rfl) (by rw[isSubtype_type];kernel_rfl) h,fun h=>wK (by rw[isSubtype_type];kernel_rfl) h⟩
 ·exact⟨fun h=>gG (U:="type") (by kernel_rfl) (by rw[isSubtype_type];kernel_rfl) h,fun h=>wK (by rw[isSubtype_type];kernel_rfl) h⟩
theorem Ci (W:Wk base) (hc:Hc):Dt prog w base dB hc (H3 hc):=fun A s x e Q E st ⟨oe,vs,he,HG,hd⟩ hQ=>by
 obtain⟨h1,h2⟩:=VF (A:=A) (E:=E) W st (M:=model prog w) hc
 refine Ce h1 h2 (VD he HG) (b:=hc.lU x) (fun {Q} h=>?_) hQ
 have o:=(W.own 49 (by decide)).keeps st
 cases x<;>cases hc<;>first
  | exact DC o h
  | exact Pt (by rw[isSubtype_type];kernel_rfl) h
end
section
variable {prog:Program}{w:World}{base:Heap}{D:Fn->List V->R V}{n:Nat}{sc:Scope}{j:List (PySem.Str × Nat)}{K:Frag}
theorem Cj {A:Around}{P:Prop}{base h₀:Heap}{env:Env}{s:Shared}{X:String}{f:Expr}{as:List Expr}{ks:List Keyword}{cp pos:Pos}{Q:Flow->Shared->Prop}{E:Value->Shared->Prop} (hh:cB A h₀) (G:ExcRaiseFacts X)
  (hf:X≠"frame") (ht:X≠"traceback")
  (hx:aL (model prog w) A (eval (.Call f as ks cp) env) (fun v s₁=>∃ e t tk,v=.ref e/\s₁={ s with heap:=s₁.heap,toks:=tk }/\s₁.heap.get? e=some { cls:=.type X,data:=.fields #[t,.none,.none,.none,.bool false,.none] }/\h₀.get? e=none/\Kept base h₀ s₁.heap/\P) E s)
  (h:P->∀ h' e tk,Kept base h₀ h'->ExcAt false h₀ (.type X) e h'->E (.ref e) { s with heap:=h',toks:=tk }) :
  aL (model prog w) A (exec (.Raise (some (.Call f as ks cp)) none pos) env) Q E s:=by
 show aL (model prog w) A (do standAt pos;raiseStmt env (some (do let v <- eval (.Call f as ks cp) env;standAt pos;pure v)) none) Q E s
 refine av ?_
 refine aJ (ay hx fun v s₁ aj=>av (aG ?_))
 refine eR aj fun e t tk zz=>DP zz fun aw hs he hn k hP=>?_;clear zz;try clear aj;subst aw
 have Ba:=G.isExc
 have VG:=G.plainMeta
 have hT:s₁.TypeIs (.ref e) X:=⟨_,he,rfl⟩
 refine eU rfl ?_
 refine ag ?_
 refine wpAny_bind (wpAny_holding ?_)
 refine wpAny_bind (wpAny_bind (m:=isType (.ref e)) (wpAny_bind (wpAny_loadPart he (wpAny_pure ?_))))
 simp only[Bool.false_eq_true,if_false]
 refine wpAny_pure ?_
 simp only[Bool.false_eq_true,if_false]
 refine wpAny_bind (wpAny_isInstance hT Ba ?_)
 simp only[if_true]
 refine wpAny_pure ?_
 refine wpAny_bind (m:=isType (.ref e)) (wpAny_bind (wpAny_loadPart he (wpAny_pure ?_)))
 simp only[Bool.false_eq_true,if_false]
 refine wpAny_bind ?_
 refine wpAny_bind (wpAny_typeOf hT ?_)
 refine wpAny_bind (m:=typeOf (.type X)) (wpAny_pure ?_)
 rw[if_pos VG]
 refine wpAny_pure ?_
 refine lC hh k he rfl (by simpa using hf) (by simpa using ht) rfl hn fun h' k' Ti TJ=>?_
 rw[hs]
 exact h hP h' e tk k' TJ
theorem pP.own {x:PySem.Str}{np pos:Pos} (W:Wd K base) (hk:sc.names.lookup x=some .globalImplicit) (hg:nsIn K mainGlobals x=some (some (.ref 49))) (hq:excIn K 49 [.type "Exception",.type "BaseException",.type "object"] "Exception.__new__"=true) (hd:(x == ("__debug__":PySem.Str))=false) :
  pP prog w base dB D n sc j (.Raise (some (.Name x np)) none pos) .syntax .nil:=fun A X ec J s at' Q E hE au=>by
 refine kR W.top fun p loose mg mb T=>?_
 obtain⟨bm,N,nm,q,bs,RL,sn,sub,ab,col,dd,k0,k1,k2,k3,k5,mN,hC,hN,WX,TL⟩:=((own_of_in W.jC T hg hq).keeps at'.cx.stays).obj
 refine ag (Hl (base:=base) (h₀:=s.heap) at'.cx.held (.refl _ _) PySem.F.excBase_Exception TL hC hN WX (j6 W at'.cx.stays at'.ge at'.scope hk hg ⟨rfl,rfl⟩ hd) fun h' e tk k kn hx=>?_)
 exact hE .syntax e h' tk (by rfl) k hx
theorem pP.value {x:PySem.Str}{np pos:Pos} (W:Wd K base) (hk:sc.names.lookup x=some .globalImplicit) (hg:nsIn K mainGlobals x=some none) (hb:bootBuiltins x=some (.type "ValueError")) (hn:x≠"__name__") (hd:(x == ("__debug__":PySem.Str))=false) :
  pP prog w base dB D n sc j (.Raise (some (.Name x np)) none pos) .value .nil:=fun A X ec J s at' Q E hE au=>by
 refine ag (kK (base:=base) (h₀:=s.heap) at'.cx.held (.refl _ _) excClass_ValueError (by rw[isSubtype_type];kernel_rfl) (by decide) (by decide) (cJ W at'.cx.stays at'.ge at'.scope hk hg hb ⟨rfl,rfl⟩ hn hd) fun h' e tk k kn hx=>?_)
 exact hE .value e h' tk (by rfl) k hx
theorem pP.bX {x:PySem.Str}{np pos:Pos} (W:Wd K base) (hk:sc.names.lookup x=some .globalImplicit) (hg:nsIn K mainGlobals x=some none) (hb:bootBuiltins x=some (.type "NotImplementedError")) (hn:x≠"__name__") (hd:(x == ("__debug__":PySem.Str))=false) :
  pP prog w base dB D n sc j (.Raise (some (.Name x np)) none pos) .bX .nil:=fun A X ec J s at' Q E hE au=>by
 refine ag (kK (base:=base) (h₀:=s.heap) at'.cx.held (.refl _ _) excClass_NotImplementedError (by rw[isSubtype_type];kernel_rfl) (by decide) (by decide) (cJ W at'.cx.stays at'.ge at'.scope hk hg hb ⟨rfl,rfl⟩ hn hd) fun h' e tk k kn hx=>?_)
 exact hE .bX e h' tk (by rfl) k hx
theorem m6 {f1:Bool}{X N I:String}{x:PySem.Str}{np cp pos:Pos}{e:Expr}{p:PE}{z:dC} (W:Wd K base) (F:ExcCallFacts X N I) (G:ExcRaiseFacts X) (HG:dB z=.type X) (hf:X≠"frame") (ht:X≠"traceback")
  (hk:sc.names.lookup x=some .globalImplicit) (hg:nsIn K mainGlobals x=some none) (hb:bootBuiltins x=some (.type X)) (hn:x≠"__name__") (hd:(x == ("__debug__":PySem.Str))=false)
  (he:aM prog w base dB D n f1 sc j e p) (hs:notStar e=true):pP prog w base dB D n sc j (.Raise (some (.Call (.Name x np) [e] [] cp)) none pos) z (.cons p .nil):=fun A X' ec J s at' Q E hE au=>by
 have e0:∀ {β:Type} (k:R β),((cT D (.cons p .nil) J).bind fun O=>k)=(ao D p J).bind fun O=>k:=fun k=>by
  rw[p5,CL];cases ao D p J<;>rfl
 have Xv:ao D p J≠.stuck:=fun q=>au (by rw[p5,q];rfl)
 rw[e0] at hE
 refine Cj (P:=∃ d,ao D p J=.ok d) (h₀:=s.heap) (base:=base) at'.cx.held G hf ht ?_ fun ⟨d,q⟩ h' e₁ tk k hx=>?_
 ·refine dA (ag (cJ W at'.cx.stays at'.ge at'.scope hk hg hb ?_ hn hd))
  have gh:starEach [e] ec=[(false,eval e ec)]:=aS hs
  rw[gh]
  refine dQ rfl (c6 (cS (he A X' ec J s at' _ _ ⟨fun d v aj tk e₁ k rp O=>(ag (spliced_nil ?_)),hE.of⟩ Xv)))
  refine ag (wpAny_call_exc F (fun h' bM hm=>?_) (by show 1<=sizeLine;decide))
  obtain⟨t,ht,_⟩:=hm.there
  exact⟨bM,.ref t,tk,rfl,rfl,ht,k.missing hm.new,k.trans (.of_keeps hm.keeps),_,e₁⟩
 ·exact hE z e₁ h' tk (by rw[q];rfl) k (by rw[HG];exact hx)
end
theorem plainAttrs_bytes:PlainAttrs "bytes":=⟨⟨"bytes.__getattribute__",by rw[typeLookup_type,builtinLookup_eq_fast];kernel_rfl,by decide +kernel⟩,by rw[typeLookup_type,builtinLookup_eq_fast];kernel_rfl⟩
namespace FM
theorem slot_str_encode:Slot "str" (Str.ofString "encode") "str.encode":=
 .of (owner:="str") (n:="encode") (by rw[typeLookup_type,builtinLookup_eq_fast];kernel_rfl) (by decide +kernel) (by decide +kernel) (by decide +kernel)
  (by first | exact .inl (by decide +kernel) | exact .inr (by decide +kernel)) (by rw[isSubtype_type];kernel_rfl)
theorem type_str_encode:typeOf (.builtin "str.encode")=pure (.type "method_descriptor"):=by show builtinType _=_;rw[builtinType_eq_fast];kernel_rfl
theorem slot_str_isdigit:Slot "str" (Str.ofString "isdigit") "str.isdigit":=
 .of (owner:="str") (n:="isdigit") (by rw[typeLookup_type,builtinLookup_eq_fast];kernel_rfl) (by decide +kernel) (by decide +kernel) (by decide +kernel)
  (by first | exact .inl (by decide +kernel) | exact .inr (by decide +kernel)) (by rw[isSubtype_type];kernel_rfl)
theorem type_str_isdigit:typeOf (.builtin "str.isdigit")=pure (.type "method_descriptor"):=by show builtinType _=_;rw[builtinType_eq_fast];kernel_rfl
theorem slot_str_lower:Slot "str" (Str.ofString "lower") "str.lower":=
 .of (owner:="str") (n:="lower") (by rw[typeLookup_type,builtinLookup_eq_fast];kernel_rfl) (by decide +kernel) (by decide +kernel) (by decide +kernel)
  (by first | exact .inl (by decide +kernel) | exact .inr (by decide +kernel)) (by rw[isSubtype_type];kernel_rfl)
theorem type_str_lower:typeOf (.builtin "str.lower")=pure (.type "method_descriptor"):=by show builtinType _=_;rw[builtinType_eq_fast];kernel_rfl
theorem slot_str_split:Slot "str" (Str.ofString "split") "str.split":=
 .of (owner:="str") (n:="split") (by rw[typeLookup_type,builtinLookup_eq_fast];kernel_rfl) (by decide +kernel) (by decide +kernel) (by decide +kernel)
  (by first | exact .inl (by decide +kernel) | exact .inr (by decide +kernel)) (by rw[isSubtype_type];kernel_rfl)
theorem type_str_split:typeOf (.builtin "str.split")=pure (.type "method_descriptor"):=by show builtinType _=_;rw[builtinType_eq_fast];kernel_rfl
theorem slot_str_startswith:Slot "str" (Str.ofString "startswith") "str.startswith":=
 .of (owner:="str") (n:="startswith") (by rw[typeLookup_type,builtinLookup_eq_fast];kernel_rfl) (by decide +kernel) (by decide +kernel) (by decide +kernel)
  (by first | exact .inl (by decide +kernel) | exact .inr (by decide +kernel)) (by rw[isSubtype_type];kernel_rfl)
theorem type_str_startswith:typeOf (.builtin "str.startswith")=pure (.type "method_descriptor"):=by show builtinType _=_;rw[builtinType_eq_fast];kernel_rfl
theorem slot_str_endswith:Slot "str" (Str.ofString "endswith") "str.endswith":=
 .of (owner:="str") (n:="endswith") (by rw[typeLookup_type,builtinLookup_eq_fast];kernel_rfl) (by decide +kernel) (by decide +kernel) (by decide +kernel)
  (by first | exact .inl (by decide +kernel) | exact .inr (by decide +kernel)) (by rw[isSubtype_type];kernel_rfl)
theorem type_str_endswith:typeOf (.builtin "str.endswith")=pure (.type "method_descriptor"):=by show builtinType _=_;rw[builtinType_eq_fast];kernel_rfl
theorem slot_str_find:Slot "str" (Str.ofString "find") "str.find":=
 .of (owner:="str") (n:="find") (by rw[typeLookup_type,builtinLookup_eq_fast];kernel_rfl) (by decide +kernel) (by decide +kernel) (by decide +kernel)
  (by first | exact .inl (by decide +kernel) | exact .inr (by decide +kernel)) (by rw[isSubtype_type];kernel_rfl)
theorem type_str_find:typeOf (.builtin "str.find")=pure (.type "method_descriptor"):=by show builtinType _=_;rw[builtinType_eq_fast];kernel_rfl
theorem slot_str_rfind:Slot "str" (Str.ofString "rfind") "str.rfind":=
 .of (owner:="str") (n:="rfind") (by rw[typeLookup_type,builtinLookup_eq_fast];kernel_rfl) (by decide +kernel) (by decide +kernel) (by decide +kernel)
  (by first | exact .inl (by decide +kernel) | exact .inr (by decide +kernel)) (by rw[isSubtype_type];kernel_rfl)
theorem type_str_rfind:typeOf (.builtin "str.rfind")=pure (.type "method_descriptor"):=by show builtinType _=_;rw[builtinType_eq_fast];kernel_rfl
theorem slot_str_lstrip:Slot "str" (Str.ofString "lstrip") "str.lstrip":=
 .of (owner:="str") (n:="lstrip") (by rw[typeLookup_type,builtinLookup_eq_fast];kernel_rfl) (by decide +kernel) (by decide +kernel) (by decide +kernel)
  (by first | exact .inl (by decide +kernel) | exact .inr (by decide +kernel)) (by rw[isSubtype_type];kernel_rfl)
theorem type_str_lstrip:typeOf (.builtin "str.lstrip")=pure (.type "method_descriptor"):=by show builtinType _=_;rw[builtinType_eq_fast];kernel_rfl
theorem slot_str_join:Slot "str" (Str.ofString "join") "str.join":=
 .of (owner:="str") (n:="join") (by rw[typeLookup_type,builtinLookup_eq_fast];kernel_rfl) (by decide +kernel) (by decide +kernel) (by decide +kernel)
  (by first | exact .inl (by decide +kernel) | exact .inr (by decide +kernel)) (by rw[isSubtype_type];kernel_rfl)
theorem type_str_join:typeOf (.builtin "str.join")=pure (.type "method_descriptor"):=by show builtinType _=_;rw[builtinType_eq_fast];kernel_rfl
theorem slot_bytes_decode:Slot "bytes" (Str.ofString "decode") "bytes.decode":=
 .of (owner:="bytes") (n:="decode") (by rw[typeLookup_type,builtinLookup_eq_fast];kernel_rfl) (by decide +kernel) (by decide +kernel) (by decide +kernel)
  (by first | exact .inl (by decide +kernel) | exact .inr (by decide +kernel)) (by rw[isSubtype_type];kernel_rfl)
theorem type_bytes_decode:typeOf (.builtin "bytes.decode")=pure (.type "method_descriptor"):=by show builtinType _=_;rw[builtinType_eq_fast];kernel_rfl
theorem dT:Slot "bytes" (Str.ofString "isdigit") "bytes.isdigit":=
 .of (owner:="bytes") (n:="isdigit") (by rw[typeLookup_type,builtinLookup_eq_fast];kernel_rfl) (by decide +kernel) (by decide +kernel) (by decide +kernel)
  (by first | exact .inl (by decide +kernel) | exact .inr (by decide +kernel)) (by rw[isSubtype_type];kernel_rfl)
theorem lP:typeOf (.builtin "bytes.isdigit")=pure (.type "method_descriptor"):=by show builtinType _=_;rw[builtinType_eq_fast];kernel_rfl
theorem eK:Slot "bytes" (Str.ofString "lower") "bytes.lower":=
 .of (owner:="bytes") (n:="lower") (by rw[typeLookup_type,builtinLookup_eq_fast];kernel_rfl) (by decide +kernel) (by decide +kernel) (by decide +kernel)
  (by first | exact .inl (by decide +kernel) | exact .inr (by decide +kernel)) (by rw[isSubtype_type];kernel_rfl)
theorem oy:typeOf (.builtin "bytes.lower")=pure (.type "method_descriptor"):=by show builtinType _=_;rw[builtinType_eq_fast];kernel_rfl
theorem eL:Slot "bytes" (Str.ofString "split") "bytes.split":=
 .of (owner:="bytes") (n:="split") (by rw[typeLookup_type,builtinLookup_eq_fast];kernel_rfl) (by decide +kernel) (by decide +kernel) (by decide +kernel)
  (by first | exact .inl (by decide +kernel) | exact .inr (by decide +kernel)) (by rw[isSubtype_type];kernel_rfl)
theorem oA:typeOf (.builtin "bytes.split")=pure (.type "method_descriptor"):=by show builtinType _=_;rw[builtinType_eq_fast];kernel_rfl
theorem slot_bytes_startswith:Slot "bytes" (Str.ofString "startswith") "bytes.startswith":=
 .of (owner:="bytes") (n:="startswith") (by rw[typeLookup_type,builtinLookup_eq_fast];kernel_rfl) (by decide +kernel) (by decide +kernel) (by decide +kernel)
  (by first | exact .inl (by decide +kernel) | exact .inr (by decide +kernel)) (by rw[isSubtype_type];kernel_rfl)
theorem type_bytes_startswith:typeOf (.builtin "bytes.startswith")=pure (.type "method_descriptor"):=by show builtinType _=_;rw[builtinType_eq_fast];kernel_rfl
theorem slot_bytes_endswith:Slot "bytes" (Str.ofString "endswith") "bytes.endswith":=
 .of (owner:="bytes") (n:="endswith") (by rw[typeLookup_type,builtinLookup_eq_fast];kernel_rfl) (by decide +kernel) (by decide +kernel) (by decide +kernel)
  (by first | exact .inl (by decide +kernel) | exact .inr (by decide +kernel)) (by rw[isSubtype_type];kernel_rfl)
theorem type_bytes_endswith:typeOf (.builtin "bytes.endswith")=pure (.type "method_descriptor"):=by show builtinType _=_;rw[builtinType_eq_fast];kernel_rfl
theorem fe:Slot "bytes" (Str.ofString "find") "bytes.find":=
 .of (owner:="bytes") (n:="find") (by rw[typeLookup_type,builtinLookup_eq_fast];kernel_rfl) (by decide +kernel) (by decide +kernel) (by decide +kernel)
  (by first | exact .inl (by decide +kernel) | exact .inr (by decide +kernel)) (by rw[isSubtype_type];kernel_rfl)
theorem pU:typeOf (.builtin "bytes.find")=pure (.type "method_descriptor"):=by show builtinType _=_;rw[builtinType_eq_fast];kernel_rfl
theorem eM:Slot "bytes" (Str.ofString "rfind") "bytes.rfind":=
 .of (owner:="bytes") (n:="rfind") (by rw[typeLookup_type,builtinLookup_eq_fast];kernel_rfl) (by decide +kernel) (by decide +kernel) (by decide +kernel)
  (by first | exact .inl (by decide +kernel) | exact .inr (by decide +kernel)) (by rw[isSubtype_type];kernel_rfl)
theorem oB:typeOf (.builtin "bytes.rfind")=pure (.type "method_descriptor"):=by show builtinType _=_;rw[builtinType_eq_fast];kernel_rfl
theorem m7:Slot "bytes" (Str.ofString "lstrip") "bytes.lstrip":=
 .of (owner:="bytes") (n:="lstrip") (by rw[typeLookup_type,builtinLookup_eq_fast];kernel_rfl) (by decide +kernel) (by decide +kernel) (by decide +kernel)
  (by first | exact .inl (by decide +kernel) | exact .inr (by decide +kernel)) (by rw[isSubtype_type];kernel_rfl)
theorem m8:typeOf (.builtin "bytes.lstrip")=pure (.type "method_descriptor"):=by show builtinType _=_;rw[builtinType_eq_fast];kernel_rfl
theorem fh:Slot "bytes" (Str.ofString "join") "bytes.join":=
 .of (owner:="bytes") (n:="join") (by rw[typeLookup_type,builtinLookup_eq_fast];kernel_rfl) (by decide +kernel) (by decide +kernel) (by decide +kernel)
  (by first | exact .inl (by decide +kernel) | exact .inr (by decide +kernel)) (by rw[isSubtype_type];kernel_rfl)
theorem pV:typeOf (.builtin "bytes.join")=pure (.type "method_descriptor"):=by show builtinType _=_;rw[builtinType_eq_fast];kernel_rfl
end FM
section
variable {prog:Program}{w:World}{base:Heap}{cl:dC->Value}
theorem pW:iU prog w base cl (Str.ofString "encode") .encode:=⟨"str.encode",⟨PySem.F.plainAttrs_str,FM.slot_str_encode,FM.type_str_encode⟩,fun A X s l v ds vs hh hu hl r rs=>B3 r rs⟩
theorem oE:iU prog w base cl (Str.ofString "isdigit") .isdigit:=⟨"str.isdigit",⟨PySem.F.plainAttrs_str,FM.slot_str_isdigit,FM.type_str_isdigit⟩,fun A X s l v ds vs hh hu hl r rs=>.stuck⟩
theorem sA:iU prog w base cl (Str.ofString "lower") .lower:=⟨"str.lower",⟨PySem.F.plainAttrs_str,FM.slot_str_lower,FM.type_str_lower⟩,fun A X s l v ds vs hh hu hl r rs=>.stuck⟩
theorem sC:iU prog w base cl (Str.ofString "split") .split:=⟨"str.split",⟨PySem.F.plainAttrs_str,FM.slot_str_split,FM.type_str_split⟩,fun A X s l v ds vs hh hu hl r rs=>HK hl r rs⟩
theorem kl:iU prog w base cl (Str.ofString "startswith") .startswith:=⟨"str.startswith",⟨PySem.F.plainAttrs_str,FM.slot_str_startswith,FM.type_str_startswith⟩,fun A X s l v ds vs hh hu hl r rs=>.stuck⟩
theorem m9:iU prog w base cl (Str.ofString "endswith") .endswith:=⟨"str.endswith",⟨PySem.F.plainAttrs_str,FM.slot_str_endswith,FM.type_str_endswith⟩,fun A X s l v ds vs hh hu hl r rs=>.stuck⟩
theorem tC:iU prog w base cl (Str.ofString "find") .find:=⟨"str.find",⟨PySem.F.plainAttrs_str,FM.slot_str_find,FM.type_str_find⟩,fun A X s l v ds vs hh hu hl r rs=>Lh r rs⟩
theorem sD:iU prog w base cl (Str.ofString "rfind") .rfind:=⟨"str.rfind",⟨PySem.F.plainAttrs_str,FM.slot_str_rfind,FM.type_str_rfind⟩,fun A X s l v ds vs hh hu hl r rs=>.stuck⟩
theorem pX:iU prog w base cl (Str.ofString "lstrip") .lstrip:=⟨"str.lstrip",⟨PySem.F.plainAttrs_str,FM.slot_str_lstrip,FM.type_str_lstrip⟩,fun A X s l v ds vs hh hu hl r rs=>BQ r rs⟩
theorem tD:iU prog w base cl (Str.ofString "join") .join:=⟨"str.join",⟨PySem.F.plainAttrs_str,FM.slot_str_join,FM.type_str_join⟩,fun A X s l v ds vs hh hu hl r rs=>Lf hl r rs⟩
theorem nc:iV prog w base cl (Str.ofString "decode") .decode:=⟨"bytes.decode",⟨plainAttrs_bytes,FM.slot_bytes_decode,FM.type_bytes_decode⟩,fun A X s l v ds vs hh hu hl r rs=>wB r rs⟩
theorem lQ:iV prog w base cl (Str.ofString "isdigit") .isdigit:=⟨"bytes.isdigit",⟨plainAttrs_bytes,FM.dT,FM.lP⟩,fun A X s l v ds vs hh hu hl r rs=>tu r rs⟩
theorem oF:iV prog w base cl (Str.ofString "lower") .lower:=⟨"bytes.lower",⟨plainAttrs_bytes,FM.eK,FM.oy⟩,fun A X s l v ds vs hh hu hl r rs=>y0 r rs⟩
theorem oG:iV prog w base cl (Str.ofString "split") .split:=⟨"bytes.split",⟨plainAttrs_bytes,FM.eL,FM.oA⟩,fun A X s l v ds vs hh hu hl r rs=>y8 hl r rs⟩
theorem iY:iV prog w base cl (Str.ofString "startswith") .startswith:=⟨"bytes.startswith",⟨plainAttrs_bytes,FM.slot_bytes_startswith,FM.type_bytes_startswith⟩,fun A X s l v ds vs hh hu hl r rs=>ot r rs⟩
theorem km:iV prog w base cl (Str.ofString "endswith") .endswith:=⟨"bytes.endswith",⟨plainAttrs_bytes,FM.slot_bytes_endswith,FM.type_bytes_endswith⟩,fun A X s l v ds vs hh hu hl r rs=>sr r rs⟩
theorem pY:iV prog w base cl (Str.ofString "find") .find:=⟨"bytes.find",⟨plainAttrs_bytes,FM.fe,FM.pU⟩,fun A X s l v ds vs hh hu hl r rs=>BZ r rs⟩
theorem oH:iV prog w base cl (Str.ofString "rfind") .rfind:=⟨"bytes.rfind",⟨plainAttrs_bytes,FM.eM,FM.oB⟩,fun A X s l v ds vs hh hu hl r rs=>y5 r rs⟩
theorem ng:iV prog w base cl (Str.ofString "lstrip") .lstrip:=⟨"bytes.lstrip",⟨plainAttrs_bytes,FM.m7,FM.m8⟩,fun A X s l v ds vs hh hu hl r rs=>.stuck⟩
theorem pZ:iV prog w base cl (Str.ofString "join") .join:=⟨"bytes.join",⟨plainAttrs_bytes,FM.fh,FM.pV⟩,fun A X s l v ds vs hh hu hl r rs=>B9 hl r rs⟩
noncomputable def Prim.DE (p:Prim):Bool:=p.casesOn false false false false false false true true false false false false false false false false false false false false
noncomputable def sE:Prim->Option PySem.Str
 | .decode=>some (Str.ofString "decode")
 | .encode=>some (Str.ofString "encode")
 | .endswith=>some (Str.ofString "endswith")
 | .find=>some (Str.ofString "find")
 | .isdigit=>some (Str.ofString "isdigit")
 | .join=>some (Str.ofString "join")
 | .lower=>some (Str.ofString "lower")
 | .lstrip=>some (Str.ofString "lstrip")
 | .rfind=>some (Str.ofString "rfind")
 | .split=>some (Str.ofString "split")
 | .startswith=>some (Str.ofString "startswith")
 | _=>none
theorem Pu {p:Prim}{name:PySem.Str}{ps:fZ} (h:sE p=some name) (hp:p.DE=true->ps=.nil) :
  ((ps=.nil/\∀ l,bq p [.str l]=.stuck)∨iU prog w base cl name p)/\((ps=.nil/\∀ l,bq p [.bytes l]=.stuck)∨iV prog w base cl name p):=by
 cases p<;>first | (contradiction;done) | skip
 all_goals obtain rfl:=Option.some.inj h
 ·exact⟨.inr pW,.inl ⟨hp rfl,fun O=>rfl⟩⟩
 ·exact⟨.inl ⟨hp rfl,fun O=>rfl⟩,.inr nc⟩
 ·exact⟨.inr oE,.inr lQ⟩
 ·exact⟨.inr sA,.inr oF⟩
 ·exact⟨.inr sC,.inr oG⟩
 ·exact⟨.inr kl,.inr iY⟩
 ·exact⟨.inr m9,.inr km⟩
 ·exact⟨.inr tC,.inr pY⟩
 ·exact⟨.inr sD,.inr oH⟩
 ·exact⟨.inr pX,.inr ng⟩
 ·exact⟨.inr tD,.inr pZ⟩
end
inductive GV
 | val (d:V)
 | fn (f:Fn)
 | builtin (id:String)
 | typ (T:String)
 | own (C:Addr)
noncomputable abbrev Gl:=List (PySem.Str × GV)
noncomputable abbrev Sg:=List (PySem.Str × Nat)
noncomputable def SD:List Fn:=[.fi,.eB,.i6,.fM,.qh,.bN,.mapped,.i7,.uS,.uT,.oN,.multi,.i9,.oO,.eY,.qi,.ia,.eO,.iN,.iO,.eZ,.gu,.lR,.jd,.lS,.gH,.bJ,.ib,.ko,.qj,.fN,.zx,.gb,.eS,.ql,.law]
theorem Fn.Ck (f:Fn):SD[f.ctorIdx]?=some f:=by cases f<;>rfl
theorem Fn.same {g f:Fn} (h:Nat.beq g.ctorIdx f.ctorIdx=true):g=f:=Option.some.inj (by rw[<- Fn.Ck g,Nat.eq_of_beq_eq_true h,Fn.Ck])
noncomputable def QL (a b:Option (List Int)):Bool:=match a with
 | none=>false
 | some x=>match b with
  | none=>false
  | some y=>decide (x=y)
noncomputable def LC:V->V->Bool
 | .int a,.int b=>decide (a=b)
 | .str a,.str b=>decide (a=b)
 | .bytes a,.bytes b=>decide (a=b)
 | .tuple a,.tuple b=>QL (eE a) (eE b)
 | _,_=>false
theorem zg:∀ {l:List V}{x:List Int},eE l=some x->l=x.map V.int:=by
 intro z0
 induction z0 with
 | nil=>
  intro x h
  injection h with h;subst h;rfl
 | cons d l ih=>
  intro x h
  cases d<;>first | (contradiction;done) | skip
  rw[qo] at h
  cases q:eE l with
  | none=>rw[q] at h;contradiction
  | some y=>rw[q] at h;injection h with h;subst h;rw[ih q];rfl
set_option tactic.hygienic true in
theorem LD {a b:V} (h:LC a b=true):a=b:=by
 cases a<;>try (contradiction;done)
 all_goals cases b<;>try (contradiction;done)
 ·rw[of_decide_eq_true h]
 ·rw[of_decide_eq_true h]
 ·rw[of_decide_eq_true h]
 ·rename_i x y
  show V.tuple x=V.tuple y
  replace h:QL (eE x) (eE y)=true:=h
  cases hx:eE x with
  | none=>rw[hx] at h;contradiction
  | some p=>cases hy:eE y with
   | none=>rw[hx,hy] at h;contradiction
   | some q=>rw[hx,hy] at h;rw[zg hx,zg hy,of_decide_eq_true h]
noncomputable def cy (sc:Scope) (x:PySem.Str):Bool:=decide (sc.names.lookup x=some .globalImplicit)&&!(x == ("__debug__":PySem.Str))&&decide (x≠"__name__")
noncomputable def sF (x:PySem.Str):Bool:=!(x == ("__debug__":PySem.Str))&&!(x == ("__classdict__":PySem.Str))
noncomputable def isBuiltin (gl:Gl) (x:PySem.Str) (id:String):Bool:=match gl.lookup x with
 | some (.builtin i)=>decide (i=id)
 | _=>false
noncomputable def pz (gl:Gl) (x:PySem.Str) (T:String):Bool:=match gl.lookup x with
 | some (.typ i)=>decide (i=T)
 | _=>false
noncomputable def noStar (es:List Expr):Bool:=es.all notStar
noncomputable def LG:Prim->Option String
 | .len=>some "len"
 | .ord=>some "ord"
 | .min=>some "min"
 | .max=>some "max"
 | _=>none
noncomputable def LH:Prim->Option String
 | .str=>some "str"
 | .int=>some "int"
 | .bytes=>some "bytes"
 | _=>none
noncomputable def isName:Expr->Bool
 | .Name _ _=>true
 | _=>false
noncomputable def zh:Expr->Bool
 | .Slice _ _ _ _=>false
 | _=>true
noncomputable def oJ:Expr->Bool
 | .Set _ _ _=>false
 | _=>true
noncomputable def ni:Expr->Bool
 | .ListComp _ _ _ _=>false
 | .SetComp _ _ _ _=>false
 | .DictComp _ _ _ _ _=>false
 | _=>true
noncomputable def oK:Expr->Bool
 | .Call (.Name _ _) [] [] _=>false
 | _=>true
noncomputable def uQ:Expr->Bool
 | .UnaryOp _ _ _=>false
 | .BoolOp _ _ _=>false
 | .IfExp _ _ _ _=>false
 | .Compare _ _ _ _=>false
 | _=>true
noncomputable def kQ (k:Nat) (scope sc:Scope) (j:Sg):Sg:=j.filter fun z=>decide (z.2≠k)&&decide ((z.1,NameKind.free)∈scope.names)&&decide ((bA scope sc).names.lookup z.1=some .cell)&&decide (j.lookup z.1=some z.2)
noncomputable def j7 (y:PySem.Str) (scope sc:Scope):Bool:=decide (scope.kind=.function)&&scope.names.all (fun z=>decide (z.2≠.cell))&&decide (scope.names.lookup y=some .local) &&
 scope.names.all (fun z=>decide (z.2≠.local)||decide (scope.names.lookup z.1=some .local))&&scope.names.all (fun z=>decide (z.2≠.free)||decide (sc.names.lookup z.1=some .cell))
noncomputable def H4:PE->Bool
 | .const _=>true
 | .bin _ _ _=>true
 | .slice _ _ _=>true
 | .list _=>true
 | .tuple _=>true
 | .comp _ _ _ _=>true
 | .prim .cj _=>true
 | _=>false
noncomputable def Wl (K:Frag) (fa:Fn->Addr) (x:PySem.Str):GV->Prop
 | .val d=>∃ gv,nsIn K mainGlobals x=some (some gv)/\∀ (g:Addr->Obj->Prop),(∀ a o,K.lookup a=some o->g a o)->Rep g d gv
 | .fn f=>nsIn K mainGlobals x=some (some (.ref (fa f)))/\∃ c d fd sl,K.lookup (fa f)=some ⟨c,d,.func fd,sl⟩
 | .builtin id=>nsIn K mainGlobals x=some none/\bootBuiltins x=some (.builtin id)
 | .typ T=>nsIn K mainGlobals x=some none/\bootBuiltins x=some (.type T)
 | .own C=>nsIn K mainGlobals x=some (some (.ref C))
structure VH (prog:Program) (w:World) (base:Heap) (D:Fn->List V->R V) (n:Nat) (K:Frag) (fa:Fn->Addr) (gl:Gl):Prop where
 W:Wd K base
 cls:Wk base
 gl:∀ x g,gl.lookup x=some g->Wl K fa x g
 calls:wo prog w base dB D n fa
 exc:excIn K 49 [.type "Exception",.type "BaseException",.type "object"] "Exception.__new__"=true
theorem fX:∀ {es:List Expr}{pos:Pos}{env:Env},noStar es=true->(backTo pos (starEach es env)).any (·.1)=false:=by
 intro z0
 induction z0 with
 | nil=>
  exact fun {pos}{env} _=>rfl
 | cons e r ih=>
  intro pos env h
  unfold noStar at h
  rw[List.all_cons,Bool.and_eq_true] at h
  rw[aS h.1]
  show (false||(backTo pos (starEach r env)).any (·.1))=false
  rw[ih h.2];rfl
theorem iK {e:Expr}{r:List Expr} (h:noStar (e::r)=true):∃ (t:Env->Sem Value) (r':Env->List (Bool × Sem Value)),∀ env,starEach (e::r) env=(false,t env)::r' env:=by
 unfold noStar at h
 rw[List.all_cons,Bool.and_eq_true] at h
 exact⟨_,_,fun env=>aS h.1⟩
theorem LJ {es:List Expr}{pos:Pos}{env:Env} (h:noStar es=true) (hl:es.length<20) :
  ((backTo pos (starEach es env)).all (fun x=>!x.1)&&(backToKw pos (keywordEach [] env)).all (fun x=>x.1.isSome)&&decide (es.length+([]:List Keyword).length+(if ([]:List Keyword).isEmpty then 0 else 1)<30))=true:=by
 have h1:(backTo pos (starEach es env)).all (fun x=>!x.1)=true:=by
  rw[List.all_eq_true]
  have:=fX (pos:=pos) (env:=env) h
  rw[List.any_eq_false] at this
  intro x hx
  simpa using this x hx
 rw[h1]
 exact decide_eq_true (Nat.lt_trans hl (by decide))
theorem sG {o:CmpOp}{e:Expr} (h:(!behindInMarks o e)=true):behindInMarks o e=false:=by simpa using h
theorem Cm {o:Expr}{name:PySem.Str} (h:oK o=true):∀ env whole,attributeBase o name env whole=whole:=by
 intro env whole
 cases o with
 | Call f as ks p=>
  cases f with
  | Name i q=>
   cases as with
   | nil=>
    cases ks with
    | nil=>contradiction
    | cons=>rfl
   | cons=>rfl
  | _=>rfl
 | _=>rfl
theorem H5 {e:Expr} (h:zh e=true):∀ o i,∃ ops,subscripted e false o i=operate ops (getItem o i):=by
 intro o i
 cases e<;>first | exact⟨_,rfl⟩ | contradiction
theorem zi {e:Expr}{a:PE} (h:(!a.isName||isName e)=true):a.isName=false∨∀ o r,letTemporaryGo e o r=pure ():=by
 cases q:a.isName with
 | false=>exact .inl rfl
 | true=>
  rw[q] at h
  cases e<;>first | exact .inr fun O O=>rfl | contradiction
theorem set_plain {e:Expr} (h:oJ e=true):∀ env x,foldedSetIterable e env x=pure x:=by
 intro env x
 cases e<;>first | rfl | contradiction
theorem Cp {e:Expr} (h:uQ e=true):∀ env whole,isTrue e env whole=(do let v <- whole;standAt e.pos;holding [v] (truthy v)):=by
 intro env whole
 cases e<;>first | rfl | contradiction
theorem bw {sc:Scope}{x:PySem.Str} (h:cy sc x=true):sc.names.lookup x=some .globalImplicit/\(x == ("__debug__":PySem.Str))=false/\x≠"__name__":=by
 unfold cy at h
 simp only[Bool.and_eq_true,decide_eq_true_eq,Bool.not_eq_true'] at h
 exact⟨h.1.1,h.1.2,h.2⟩
section
variable {prog:Program}{w:World}{base:Heap}{D:Fn->List V->R V}{n:Nat}{K:Frag}{fa:Fn->Addr}{gl:Gl}
theorem Cq (H:VH prog w base D n K fa gl) {x:PySem.Str}{T:String} (h:pz gl x T=true):nsIn K mainGlobals x=some none/\bootBuiltins x=some (.type T):=by
 refine H.gl x (.typ T) ?_
 revert h
 unfold pz
 cases gl.lookup x with
 | none=>intro h;contradiction
 | some g=>cases g<;>intro h<;>first | contradiction | exact congrArg (fun i=>some (GV.typ i)) (of_decide_eq_true h)
theorem Cr (H:VH prog w base D n K fa gl) {x:PySem.Str}{T:String} (h:isBuiltin gl x T=true):nsIn K mainGlobals x=some none/\bootBuiltins x=some (.builtin T):=by
 refine H.gl x (.builtin T) ?_
 revert h
 unfold isBuiltin
 cases gl.lookup x with
 | none=>intro h;contradiction
 | some g=>cases g<;>intro h<;>first | contradiction | exact congrArg (fun i=>some (GV.builtin i)) (of_decide_eq_true h)
theorem LK {p:Prim}{id:String} (h:LG p=some id):fc prog w base dB false (.builtin id) p:=by
 cases p<;>first | (contradiction;done) | skip
 all_goals obtain rfl:=Option.some.inj h
 ·exact K9
 ·exact Lb
 ·exact Lq
 ·exact Lr
theorem LM {p:Prim}{T:String} (h:LH p=some T):fc prog w base dB false (.type T) p:=by
 cases p<;>first | (contradiction;done) | skip
 all_goals obtain rfl:=Option.some.inj h
 ·exact La
 ·exact Lx
 ·exact Cd rfl
theorem LN {k:Nat}{scope sc:Scope}{j:Sg}:∀ y i,(kQ k scope sc j).lookup y=some i->j.lookup y=some i/\i≠k/\(y,NameKind.free)∈scope.names/\(bA scope sc).names.lookup y=some .cell:=by
 intro y i h
 have:=lookup_mem h
 unfold kQ at this
 rw[List.mem_filter] at this
 simp only[Bool.and_eq_true,decide_eq_true_eq] at this
 refine b6 this fun O mw h4=>?_;obtain⟨⟨h1,h2⟩,h3⟩:=mw
 exact⟨h4,h1,h2,h3⟩
theorem zj {y:PySem.Str}{scope sc:Scope} (h:j7 y scope sc=true):scope.kind=.function/\(∀ z∈scope.names,z.2≠.cell)/\scope.names.lookup y=some .local/\(∀ z∈scope.names,z.2=.local->scope.names.lookup z.1=some .local)/\
  ∀ z,(z,NameKind.free)∈scope.names->sc.names.lookup z=some .cell:=by
 unfold j7 at h
 simp only[Bool.and_eq_true,decide_eq_true_eq,List.all_eq_true,Bool.or_eq_true] at h
 refine aC h fun mw h5=>?_;obtain⟨⟨⟨h1,h2⟩,h3⟩,h4⟩:=mw
 refine⟨h1,h2,h3,fun z hz q=>(h4 z hz).resolve_left fun e=>e q,fun z hz=>(h5 _ hz).resolve_left fun e=>e rfl⟩
end
structure wL (gl:Gl) where
 prog:Program
 w:World
 base:Heap
 D:Fn->List V->R V
 n:Nat
 K:Frag
 fa:Fn->Addr
 H:VH prog w base D n K fa gl
def YE (gl:Gl) (sc:Scope) (j:Sg) (p:PE) (e:Expr):Prop:=∀ (c:wL gl) (fr:Bool),(fr=true->H4 p=true)->aM c.prog c.w c.base dB c.D c.n fr sc j e p
def YP (gl:Gl) (sc:Scope) (j:Sg) (p:PE) (o:Option Expr):Prop:=∀ c:wL gl,wq c.prog c.w c.base dB c.D c.n sc j o p
def YT (gl:Gl) (sc:Scope) (j:Sg) (p:PE) (e:Expr):Prop:=∀ c:wL gl,gE c.prog c.w c.base dB c.D c.n sc j e p
def YA (gl:Gl) (op:BoolOp) (sc:Scope) (j:Sg) (p:PE) (es:List Expr):Prop:=∀ c:wL gl,og c.prog c.w c.base dB c.D c.n op sc j es p
def YL (gl:Gl) (sc:Scope) (j:Sg) (ps:fZ) (es:List Expr):Prop:=∀ c:wL gl,kf c.prog c.w c.base dB c.D c.n sc j es ps
def Yz (gl:Gl) (sc:Scope) (j:Sg) (ps:CJ) (es:List Expr):Prop:=∀ c:wL gl,jM c.prog c.w c.base dB c.D c.n sc j es ps
def YI (gl:Gl) (sc:Scope) (j:Sg) (it:uV) (e:Expr):Prop:=∀ c:wL gl,jG c.prog c.w c.base dB c.D c.n sc j e it
def YC (gl:Gl) (sc:Scope) (j:Sg) (p:PE) (es:List Expr):Prop:=∀ c:wL gl,tj c.prog c.w c.base dB c.D c.n sc j es p
noncomputable abbrev nx (P:Prop):=Option (PLift P)
noncomputable def yes {P:Prop} (h:P):nx P:=some ⟨h⟩
noncomputable def need {α:Type}:(b:Bool)->(b=true->Option α)->Option α
 | true,k=>k rfl
 | false,_=>none
noncomputable def got {α β:Type}:(o:Option α)->(∀ a,o=some a->Option β)->Option β
 | some a,k=>k a rfl
 | none,_=>none
noncomputable def also {P:Prop}{α:Type}:nx P->(P->Option α)->Option α
 | some h,k=>k h.down
 | none,_=>none
noncomputable def either {α:Type}:Option α->Option α->Option α
 | some a,_=>some a
 | none,b=>b
section
variable {gl:Gl}{sc:Scope}{j:Sg}{p a b:PE}{e x y:Expr}
theorem YE.f (h:YE gl sc j p e) (c:wL gl):aM c.prog c.w c.base dB c.D c.n false sc j e p:=h c false nofun
theorem weak (q:H4 p=false) (h:∀ c:wL gl,aM c.prog c.w c.base dB c.D c.n false sc j e p):YE gl sc j p e:=fun c fr hf=>by
 cases fr
 ·exact h c
 ·rw[hf rfl] at q;contradiction
noncomputable def fZ.isNil:fZ->Bool
 | .nil=>true
 | _=>false
theorem fZ.SF {as:fZ} (h:as.isNil=true):as=.nil:=by
 cases as with
 | nil=>rfl
 | cons _ _=>contradiction
noncomputable def Xw (gl:Gl) (sc:Scope) (j:Sg):(v:V)->(e:Expr)->nx (YE gl sc j (.const v) e)
 | .none,e=>match e with
  | .Constant .none _ _=>yes fun c fr O=>aM.none
  | _=>none
 | .bool b,e=>match e with
  | .Constant (.bool k) _ _=>need (decide (k=b)) fun h=>yes fun c fr O=>of_decide_eq_true h ▸ aM.bool
  | _=>none
 | .int i,e=>match e with
  | .Constant (.int aaQ) _ _=>need (decide (aaQ=i)) fun h=>yes fun c fr O=>of_decide_eq_true h ▸ aM.int
  | .UnaryOp .USub (.Constant (.int aaQ) _ _) _=>need (decide (i=-aaQ)) fun h=>yes fun c fr O=>aM.R6 (of_decide_eq_true h)
  | _=>none
 | .str l,e=>match e with
  | .Constant (.str x) _ _=>need (decide (x.cps.toList=l)) fun h=>need (decide (l.length<=1000)) fun h2=>yes fun c fr O=>aM.str (of_decide_eq_true h) (Nat.le_trans (of_decide_eq_true h2) (by decide))
  | _=>none
 | .bytes l,e=>match e with
  | .Constant (.bytes x) _ _=>need (decide (x.map UInt8.toNat=l)) fun h=>need (decide (l.length<=1000)) fun h2=>yes fun c fr O=>aM.bytes (of_decide_eq_true h) (Nat.le_trans (of_decide_eq_true h2) (by decide))
  | _=>none
 | _,_=>none
theorem LP {q:Prim}{as:fZ}{ov:Expr}{name:PySem.Str}{ap pos:Pos}{es:List Expr} (h:(decide (sE q=some name)&&(!q.DE||es.isEmpty)&&(!es.isEmpty||as.isNil)&&oK ov&&noStar es&&decide (es.length<20)&&(ap.endLine == pos.line))=true) (A:YE gl sc j a ov) (B:YL gl sc j as es) :
  YE gl sc j (.aH q a as) (.Call (.Attribute ov name ap) es [] pos):=weak rfl fun c=>by
 simp only[Bool.and_eq_true,decide_eq_true_eq] at h
 refine aC h fun mw h6=>?_;obtain⟨⟨⟨⟨⟨h1,h2⟩,h0⟩,h3⟩,h4⟩,h5⟩:=mw
 have VJ:es=[]->as=.nil:=fun q=>by
  subst q;exact fZ.SF h0
 have O8:q.DE=true->as=.nil:=fun q=>VJ (by
  rw[q] at h2
  exact List.isEmpty_iff.mp h2)
 refine aC (Pu (prog:=c.prog) (w:=c.w) (base:=c.base) (cl:=dB) (ps:=as) h1 O8) fun m1 m2=>?_
 refine O7 m1 m2 (A.f c) (B c) (Cm h3) (fun env=>LJ h4 h5) h6 (fun env=>fX h4) ?_
 cases es with
 | nil=>exact .inl ⟨rfl,VJ rfl⟩
 | cons e r=>exact .inr (iK h4)
theorem zk {px:PySem.Str}{z:PySem.Str}{np zp pos:Pos} (h1:cy sc px=true) (h2:(decide (px=Str.ofString "isinstance")&&isBuiltin gl px "isinstance"&&cy sc z&&decide (z=Str.ofString "bytes")&&pz gl z "bytes"&&notStar y)=true) (A:YE gl sc j a y) :
  YE gl sc j (.prim .isBytes (.cons a .nil)) (.Call (.Name px np) [y,.Name z zp] [] pos):=weak rfl fun c=>by
 simp only[Bool.and_eq_true,decide_eq_true_eq] at h2
 refine aC h2 fun mw a4=>?_;obtain⟨⟨⟨⟨rfl,a1⟩,a2⟩,rfl⟩,a3⟩:=mw
 refine aC (Cr c.H a1) fun b1 b2=>?_
 refine aC (Cq c.H a3) fun c1 c2=>?_
 exact B4 c.H.W (bw h1).1 b1 b2 (bw a2).1 c1 c2 (A.f c) a4
theorem LQ {px:PySem.Str}{np pos:Pos} (h1:cy sc px=true) (h2:(decide (px=Str.ofString "bytearray")&&pz gl px "bytearray")=true):YE gl sc j (.prim .cj .nil) (.Call (.Name px np) [] [] pos):=fun c fr O=>by
 simp only[Bool.and_eq_true,decide_eq_true_eq] at h2
 refine aC h2 fun aw a1=>?_;try clear h2;subst aw
 refine aC (Cq c.H a1) fun c1 c2=>?_
 exact Pj c.H.W (bw h1).1 c1 c2
theorem H6 {q:Prim}{as:fZ}{id:String}{px:PySem.Str}{np pos:Pos}{ys:List Expr} (h0:H4 (.prim q as)=false) (h1:cy sc px=true) (h2:noStar (y::ys)=true) (B:YL gl sc j as (y::ys)) (u:gl.lookup px=some (.builtin id)) (v:decide (LG q=some id)=true) :
  YE gl sc j (.prim q as) (.Call (.Name px np) (y::ys) [] pos):=weak h0 fun c=>by
 refine b6 (bw h1) fun g1 g2 g3=>?_
 refine aC (c.H.gl _ _ u) fun c1 c2=>?_
 exact K7 c.H.W (LK (of_decide_eq_true v)) g1 c1 c2 (B c) (iK h2) (fun env=>fX h2) g3 g2
theorem H7 {q:Prim}{as:fZ}{T:String}{px:PySem.Str}{np pos:Pos}{ys:List Expr} (h0:H4 (.prim q as)=false) (h1:cy sc px=true) (h2:noStar (y::ys)=true) (B:YL gl sc j as (y::ys)) (u:gl.lookup px=some (.typ T)) (v:decide (LH q=some T)=true) :
  YE gl sc j (.prim q as) (.Call (.Name px np) (y::ys) [] pos):=weak h0 fun c=>by
 refine b6 (bw h1) fun g1 g2 g3=>?_
 refine aC (c.H.gl _ _ u) fun c1 c2=>?_
 exact K8 c.H.W (LM (of_decide_eq_true v)) g1 c1 c2 (B c) (iK h2) (fun env=>fX h2) g3 g2
theorem LR {f:Fn}{as:fZ}{px:PySem.Str}{np pos:Pos}{ys:List Expr} (h1:cy sc px=true) (h2:noStar (y::ys)=true) (B:YL gl sc j as (y::ys)) (u:gl.lookup px=some (.fn f)):YE gl sc j (.call f as) (.Call (.Name px np) (y::ys) [] pos):=weak rfl fun c=>by
 refine b6 (bw h1) fun g1 g2 g3=>?_
 refine aC (c.H.gl _ _ u) fun e1 e2=>?_
 exact aM.call c.H.W c.H.calls g1 e1 e2 (B c) (iK h2) (fun env=>fX h2) g2
theorem LS {v v':V}{px:PySem.Str}{np:Pos} (h1:cy sc px=true) (u:gl.lookup px=some (.val v')) (h2:LC v v'=true):YE gl sc j (.glob v) (.Name px np):=weak rfl fun c=>by
 obtain rfl:=LD h2
 refine Exists.elim (c.H.gl _ _ u) fun gv zz=>aC zz fun e1 e2=>?_
 exact aM.glob c.H.W (bw h1).1 e1 e2 (bw h1).2.1
theorem LV {elt t:PE}{k:Nat}{it:uV}{px:PySem.Str}{iter:Expr}{ifs:List Expr}{scope:Scope}{np pos:Pos} (h:(j7 px scope sc&&oJ iter)=true) (I:YI gl sc j it iter) (E:YE gl (bA scope sc) ((px,k)::kQ k scope sc j) elt x) (C:YC gl (bA scope sc) ((px,k)::kQ k scope sc j) t ifs) :
  YE gl sc j (.comp elt k it t) (.ListComp x [⟨.Name px np,iter,ifs,0⟩] scope pos):=fun c fr O=>by
 rw[Bool.and_eq_true] at h
 refine p4 (zj h.1) fun s1 s2 s3 s4 s5=>?_
 exact OZ (I c) (C c) (E.f c) s1 s2 s3 s4 s5 LN (set_plain h.2)
theorem Cu {px:PySem.Str} (h:(decide (px=Str.ofString "range")&&cy sc px&&pz gl px "range")=true) (c:wL gl):px=Str.ofString "range"/\sc.names.lookup px=some .globalImplicit/\nsIn c.K mainGlobals px=some none/\bootBuiltins px=some (.type "range"):=by
 simp only[Bool.and_eq_true,decide_eq_true_eq] at h
 refine aC (Cq c.H h.2) fun c1 c2=>?_
 exact⟨h.1.1,(bw h.1.2).1,c1,c2⟩
end
structure Lk (gl:Gl) where
 E:(sc:Scope)->(j:Sg)->(p:PE)->(e:Expr)->nx (YE gl sc j p e)
 Co:(sc:Scope)->(j:Sg)->(p:PE)->(es:List Expr)->nx (YC gl sc j p es)
 P:(sc:Scope)->(j:Sg)->(p:PE)->(o:Option Expr)->nx (YP gl sc j p o)
 T:(sc:Scope)->(j:Sg)->(p:PE)->(e:Expr)->nx (YT gl sc j p e)
 A:(op:BoolOp)->(sc:Scope)->(j:Sg)->(p:PE)->(es:List Expr)->nx (YA gl op sc j p es)
 L:(sc:Scope)->(j:Sg)->(ps:fZ)->(es:List Expr)->nx (YL gl sc j ps es)
 Fs:(sc:Scope)->(j:Sg)->(ps:CJ)->(es:List Expr)->nx (Yz gl sc j ps es)
 I:(sc:Scope)->(j:Sg)->(it:uV)->(e:Expr)->nx (YI gl sc j it e)
section
variable {gl:Gl}
noncomputable def Xx (L:Lk gl) (sc:Scope) (j:Sg) (p:PE) (e:Expr):nx (YE gl sc j p e):=match p with
  | .const v=>Xw gl sc j v e
  | .glob v=>match e with
   | .Name x _=>need (cy sc x) fun h1=>got (gl.lookup x) fun g u=>match g,u with
    | .val v',u=>need (LC v v') fun h2=>yes (LS h1 u h2)
    | _,_=>none
   | _=>none
  | .loc i=>match e with
   | .Name x _=>need (decide (j.lookup x=some i)) fun h=>need (!(x == ("__debug__":PySem.Str))) fun h2=>need (!(x == ("__classdict__":PySem.Str))) fun h3=>yes (weak rfl fun c=>aM.loc (of_decide_eq_true h) ((Bool.not_eq_true' _).mp h2) ((Bool.not_eq_true' _).mp h3))
   | _=>none
  | .bin op a b=>match e with
   | .BinOp l o r _=>need (decide (o=op.op)) fun h=>also (L.E sc j a l) fun A=>also (L.E sc j b r) fun B=>yes fun c fr O=>aM.bin (of_decide_eq_true h) (A.f c) (B.f c)
   | _=>none
  | .cmp op a b=>match e with
   | .Compare l [o] [r] _=>need (decide (o=op.op)) fun h=>need (!behindInMarks o r) fun h2=>also (L.E sc j a l) fun A=>also (L.E sc j b r) fun B=>yes fun c fr O=>aM.cmp (of_decide_eq_true h) (sG h2) (A.f c) (B.f c)
   | _=>none
  | .not a=>match e with
   | .UnaryOp .Not x _=>also (L.E sc j a x) fun A=>yes fun c fr O=>aM.not (A.f c)
   | _=>none
  | .and a b=>match e with
   | .BoolOp .And [x,y] _=>also (L.E sc j a x) fun A=>also (L.E sc j b y) fun B=>yes (weak rfl fun c=>aM.and (A.f c) (B.f c))
   | _=>none
  | .or a b=>match e with
   | .BoolOp .Or [x,y] _=>also (L.E sc j a x) fun A=>also (L.E sc j b y) fun B=>yes (weak rfl fun c=>aM.or (A.f c) (B.f c))
   | _=>none
  | .call f as=>match e with
   | .Call (.Name x _) (y::ys) [] _=>need (cy sc x) fun h1=>need (noStar (y::ys)) fun h2=>also (L.L sc j as (y::ys)) fun B=>got (gl.lookup x) fun g u=>match g,u with
    | .fn g,u=>need (Nat.beq g.ctorIdx f.ctorIdx) fun h=>yes (LR h1 h2 B (Fn.same h ▸ u))
    | _,_=>none
   | _=>none
  | .prim q as=>match e with
   | .Call (.Name x _) es [] _=>need (cy sc x) fun h1=>either
    (match q,as,es with
     | .isBytes,.cons a .nil,[y,.Name z _]=>need (decide (x=Str.ofString "isinstance")&&isBuiltin gl x "isinstance"&&cy sc z&&decide (z=Str.ofString "bytes")&&pz gl z "bytes"&&notStar y) fun h2=>also (L.E sc j a y) fun A=>yes (zk h1 h2 A)
     | .cj,.nil,[]=>need (decide (x=Str.ofString "bytearray")&&pz gl x "bytearray") fun h2=>yes (LQ h1 h2)
     | _,_,_=>none)
    (match es with
     | y::ys=>need (!H4 (.prim q as)) fun h0=>need (noStar (y::ys)) fun h2=>also (L.L sc j as (y::ys)) fun B=>got (gl.lookup x) fun g u=>match g,u with
      | .builtin id,u=>need (decide (LG q=some id)) fun v=>yes (H6 ((Bool.not_eq_true' _).mp h0) h1 h2 B u v)
      | .typ T,u=>need (decide (LH q=some T)) fun v=>yes (H7 ((Bool.not_eq_true' _).mp h0) h1 h2 B u v)
      | _,_=>none
     | []=>none)
   | _=>none
  | .aH q o as=>match e with
   | .Call (.Attribute ov name ap) es [] pos=>need (decide (sE q=some name)&&(!q.DE||es.isEmpty)&&(!es.isEmpty||as.isNil)&&oK ov&&noStar es&&decide (es.length<20)&&(ap.endLine == pos.line)) fun h=>also (L.E sc j o ov) fun A=>also (L.L sc j as es) fun B=>yes (LP h A B)
   | _=>none
  | .idx a i=>match e with
   | .Subscript value slice _=>need (zh slice) fun h=>need (!a.isName||isName value) fun h2=>also (L.E sc j a value) fun A=>also (L.E sc j i slice) fun B=>yes (weak rfl fun c=>aM.idx (A.f c) (B.f c) (H5 h) (zi h2))
   | _=>none
  | .slice a lo hi=>match e with
   | .Subscript value (.Slice l u none _) _=>need (!a.isName||isName value) fun h=>also (L.E sc j a value) fun A=>also (L.P sc j lo l) fun B=>also (L.P sc j hi u) fun C=>yes fun c fr O=>aM.slice (A.f c) (B c) (C c) (zi h)
   | _=>none
  | .list es=>match e with
   | .List xs _=>need (decide (es.len<=1000)) fun h=>also (L.L sc j es xs) fun B=>yes fun c fr O=>aM.list (B c) (of_decide_eq_true h)
   | _=>none
  | .tuple es=>match e with
   | .Tuple xs _ _=>need (decide (es.len<=1000)) fun h=>also (L.L sc j es xs) fun B=>yes fun c fr O=>aM.tuple (B c) (of_decide_eq_true h)
   | _=>none
  | .comp elt k it t=>match e with
   | .ListComp x [⟨.Name y _,iter,ifs,0⟩] scope _=>need (j7 y scope sc&&oJ iter) fun h=>also (L.I sc j it iter) fun I=>also (L.E (bA scope sc) ((y,k)::kQ k scope sc j) elt x) fun E=>also (L.Co (bA scope sc) ((y,k)::kQ k scope sc j) t ifs) fun C=>yes (LV h I E C)
   | _=>none
  | .qm fs=>match e with
   | .JoinedStr (a::b::r) _=>need (decide (r.length<=90)) fun h=>also (L.Fs sc j fs (a::b::r)) fun B=>yes (weak rfl fun c=>Pq (B c) (of_decide_eq_true h))
   | _=>none
noncomputable def VK (L:Lk gl) (sc:Scope) (j:Sg) (p:PE) (es:List Expr):nx (YC gl sc j p es):=match es with
  | []=>match p with
   | .const (.bool true)=>yes fun c=>tj.nil
   | _=>none
  | [t]=>also (L.T sc j p t) fun A=>yes fun c=>tj.one (A c)
  | _=>none
noncomputable def Xy (L:Lk gl) (sc:Scope) (j:Sg) (p:PE) (o:Option Expr):nx (YP gl sc j p o):=match o with
  | none=>match p with
   | .const .none=>yes fun c=>wq.none
   | _=>none
  | some e=>also (L.E sc j p e) fun A=>yes fun c=>wq.some (A.f c)
noncomputable def Xz (L:Lk gl) (sc:Scope) (j:Sg) (p:PE) (e:Expr):nx (YT gl sc j p e):=either
  (match e with
   | .UnaryOp .Not x _=>match p with
    | .not a=>also (L.T sc j a x) fun A=>yes fun c=>gE.not (A c)
    | _=>none
   | .BoolOp op es _=>also (L.A op sc j p es) fun A=>yes fun c=>gE.bool (A c)
   | .Compare l [o] [r] _=>match p with
    | .cmp op a b=>need (decide (o=op.op)) fun h=>need (!behindInMarks o r) fun h2=>also (L.E sc j a l) fun A=>also (L.E sc j b r) fun B=>yes fun c=>gE.cmp (of_decide_eq_true h) (sG h2) (A.f c) (B.f c)
    | _=>none
   | _=>none)
  (need (uQ e) fun h=>also (L.E sc j p e) fun A=>yes fun c=>gE.value (A.f c) (Cp h))
noncomputable def XA (L:Lk gl) (op:BoolOp) (sc:Scope) (j:Sg) (p:PE) (es:List Expr):nx (YA gl op sc j p es):=match es with
  | []=>none
  | e::r=>match r with
   | []=>also (L.T sc j p e) fun A=>yes fun c=>og.one (A c)
   | f::r=>match op with
    | .And=>match p with
     | .and a b=>also (L.T sc j a e) fun A=>also (L.A .And sc j b (f::r)) fun B=>yes fun c=>og.and (A c) (B c)
     | _=>none
    | .Or=>match p with
     | .or a b=>also (L.T sc j a e) fun A=>also (L.A .Or sc j b (f::r)) fun B=>yes fun c=>og.or (A c) (B c)
     | _=>none
noncomputable def XB (L:Lk gl) (sc:Scope) (j:Sg) (ps:fZ) (es:List Expr):nx (YL gl sc j ps es):=match ps with
  | .nil=>match es with
   | []=>yes fun c=>kf.nil
   | _=>none
  | .cons a as=>match es with
   | e::r=>need (notStar e) fun h=>also (L.E sc j a e) fun A=>also (L.L sc j as r) fun B=>yes fun c=>kf.cons (A.f c) (B c) h
   | _=>none
noncomputable def VL (L:Lk gl) (sc:Scope) (j:Sg) (ps:CJ) (es:List Expr):nx (Yz gl sc j ps es):=match ps with
  | .nil=>match es with
   | []=>yes fun c=>jM.nil
   | _=>none
  | .cons p f as=>match es with
   | []=>none
   | e::r=>also (L.Fs sc j as r) fun B=>match f with
    | .plain=>match e with
     | .FormattedValue v (-1) none _=>also (L.E sc j p v) fun A=>yes fun c=>jM.cons (tA.plain (A.f c)) (B c)
     | .Constant (.str x) _ _=>match p with
      | .const (.str l)=>need (decide (x.cps.toList=l)) fun h=>need (decide (l.length<=1000)) fun h2=>yes fun c=>jM.cons (tA.text (of_decide_eq_true h) (Nat.le_trans (of_decide_eq_true h2) (by decide))) (B c)
      | _=>none
     | _=>none
    | .uU=>match e with
     | .FormattedValue v (-1) (some (.JoinedStr [.Constant (.str sp) _ _] _)) _=>need (decide (sp=dS)) fun h=>also (L.E sc j p v) fun A=>yes fun c=>jM.cons (tA.uU (A.f c) (of_decide_eq_true h)) (B c)
     | _=>none
noncomputable def XC (L:Lk gl) (sc:Scope) (j:Sg) (it:uV) (e:Expr):nx (YI gl sc j it e):=match it with
  | .val p=>also (L.E sc j p e) fun A=>yes fun c=>jG.val (A.f c)
  | .sO lo hi st=>match e with
   | .Call (.Name x _) es [] _=>need (decide (x=Str.ofString "range")&&cy sc x&&pz gl x "range") fun h=>match es with
    | [b]=>match lo with
     | .const (.int 0)=>match st with
      | 1=>need (notStar b) fun h2=>also (L.E sc j hi b) fun B=>yes fun c=>by
        refine iZ (Cu h c) fun aw g1 c1 c2=>?_;subst aw
        exact jG.W9 c.H.W g1 c1 c2 (B.f c) h2
      | _=>none
     | _=>none
    | [a,b]=>match st with
     | 1=>need (notStar a) fun h2=>need (notStar b) fun h3=>also (L.E sc j lo a) fun A=>also (L.E sc j hi b) fun B=>yes fun c=>by
        refine iZ (Cu h c) fun aw g1 c1 c2=>?_;subst aw
        exact jG.W8 c.H.W g1 c1 c2 (A.f c) (B.f c) h2 h3
     | _=>none
    | [a,b,.Constant (.int 2) _ _]=>match st with
     | 2=>need (notStar a) fun h2=>need (notStar b) fun h3=>also (L.E sc j lo a) fun A=>also (L.E sc j hi b) fun B=>yes fun c=>by
        refine iZ (Cu h c) fun aw g1 c1 c2=>?_;subst aw
        exact jG.Xa c.H.W g1 c1 c2 (A.f c) (B.f c) h2 h3
     | _=>none
    | _=>none
   | _=>none
noncomputable def lk (gl:Gl):Nat->Lk gl
 | 0=>⟨fun O O O O=>none,fun O O O O=>none,fun O O O O=>none,fun O O O O=>none,fun O O O O O=>none,fun O O O O=>none,fun O O O O=>none,fun O O O O=>none⟩
 | m+1=>⟨Xx (lk gl m),VK (lk gl m),Xy (lk gl m),Xz (lk gl m),XA (lk gl m),XB (lk gl m),VL (lk gl m),XC (lk gl m)⟩
end
inductive f9
 | any
 | is (o:Option Nat)
noncomputable def f9.join:f9->f9->f9
 | .any,r=>r
 | r,.any=>r
 | .is a,.is b=>if a=b then .is a else .is none
noncomputable def f9.fits (r:f9) (o:Option Nat):Bool:=match r with
 | .any=>true
 | .is a=>decide (a=o)||decide (o=none)
noncomputable def pA (sc:Scope) (j:Sg) (x:PySem.Str) (i:Nat):Bool:=decide (sc.names.lookup x=some .local)&&decide (j.lookup x=some i)
noncomputable def less (j:Sg) (own:Option Nat):Sg:=match own with
 | none=>j
 | some aaQ=>j.filter fun z=>decide (z.2≠aaQ)
noncomputable def wM (j:Sg):Bool:=decide (j.map (·.1)).Nodup&&decide (j.map (·.2)).Nodup
noncomputable def wN (t:PySem.Str) (px pos:Pos) (scope:Scope):Bool:=(px.line == pos.line)&&!(scope.names.any fun z=>z.1 == t&&(z.2 == .local||z.2 == .cell))
section
variable {prog:Program}{w:World}{base:Heap}{D:Fn->List V->R V}{n:Nat}{K:Frag}{fa:Fn->Addr}{gl:Gl}{sc:Scope}{j:Sg}
def YF (prog:Program) (w:World) (base:Heap) (D:Fn->List V->R V) (n:Nat) (sc:Scope) (j:Sg) (own:Option Nat) (r:f9) (s:Stmt) (p:PS):Prop:=match r with
 | .any=>∀ o,bL prog w base dB D n own o sc j s p
 | .is o=>bL prog w base dB D n own o sc j s p
def Pw (prog:Program) (w:World) (base:Heap) (D:Fn->List V->R V) (n:Nat) (sc:Scope) (j:Sg) (own:Option Nat) (r:f9) (s:List Stmt) (p:aB):Prop:=match r with
 | .any=>∀ o,b0 prog w base dB D n own o sc j s p
 | .is o=>b0 prog w base dB D n own o sc j s p
theorem Cv:∀ {j:Sg},(j.map (·.2)).Nodup->∀ {x z:PySem.Str}{i:Nat},j.lookup x=some i->j.lookup z=some i->z=x:=by
 intro j hn x z i h1 h2
 have m1:=lookup_mem h1
 have m2:=lookup_mem h2
 clear h1 h2
 induction j with
 | nil=>cases m1
 | cons p r ih=>
  rw[List.map_cons,List.nodup_cons] at hn
  rcases List.mem_cons.mp m1 with q1 | q1<;>rcases List.mem_cons.mp m2 with q2 | q2
  ·rw[<- q2] at q1;exact (Prod.mk.inj q1).1.symm
  ·exact absurd (List.mem_map.mpr ⟨_,q2,by rw[<- q1]⟩) hn.1
  ·exact absurd (List.mem_map.mpr ⟨_,q1,by rw[<- q2]⟩) hn.1
  ·exact ih hn.2 q1 q2
theorem tE:∀ {j:Sg},(j.map (·.1)).Nodup->∀ {y:PySem.Str}{i:Nat},(y,i)∈j->j.lookup y=some i:=by
 intro z0
 induction z0 with
 | nil=>
  intro _ _ _ h
  contradiction
 | cons p r ih=>
  intro hn y i h
  rw[List.map_cons,List.nodup_cons] at hn
  rw[List.lookup_cons]
  rcases List.mem_cons.mp h with q | q
  ·rw[<- q];simp
  ·have ne:(y == p.1)=false:=by
    rw[beq_eq_false_iff_ne]
    intro e
    exact hn.1 (List.mem_map.mpr ⟨_,q,e⟩)
   rw[ne]
   exact ih hn.2 q
theorem uR (hn:(j.map (·.1)).Nodup) {aaQ:Nat}:∀ y k,(less j (some aaQ)).lookup y=some k->j.lookup y=some k/\k≠aaQ:=fun y k h=>by
 have:=lookup_mem h
 unfold less at this
 rw[List.mem_filter] at this
 exact⟨tE hn this.1,of_decide_eq_true this.2⟩
theorem LW (hn:(j.map (·.1)).Nodup) {own:Option Nat}:∀ y k,(less j own).lookup y=some k->j.lookup y=some k/\∀ aaQ,own=some aaQ->k≠aaQ:=fun y k h=>by
 cases own with
 | none=>exact⟨h,fun aaQ q=>by contradiction⟩
 | some aaQ=>refine aC (uR hn y k h) fun h1 h2=>?_;exact⟨h1,fun j' q=>by injection q with q;subst q;exact h2⟩
theorem fY {e:Expr} (h:ni e=true) (t:Option Expr) (l:Nat):∀ env,swapsWith e t l env=pure false:=by
 intro env
 cases e<;>first | rfl | contradiction
theorem H8 {y:PySem.Str}{py pos:Pos}{elt:Expr}{gs:List Comprehension}{scope:Scope}{l:Nat} (h:wN y py pos scope=true) (hk:sc.names.lookup y=some .local) :
  ∀ env:Env,env.scope=sc->env.scope.kind=.function->swapsWith (.ListComp elt gs scope pos) (some (.Name y py)) l env=pure true:=by
 intro env hs hf
 unfold wN at h
 rw[Bool.and_eq_true] at h
 have hb:env.blockKind=.function:=by unfold Env.blockKind;rw[hf];rfl
 have hkd:env.kindOf y=some .local:=by unfold Env.kindOf;rw[hs];exact hk
 show (pure (env.blockKind == .function&&env.kindOf y == some .local&&py.line == pos.line&&!(scope.names.any fun z=>z.1 == y&&(z.2 == .local||z.2 == .cell))):Sem Bool)=pure true
 rw[hb,hkd,h.1,h.2]
 rfl
theorem H9 {elt c:PE}{k:Nat}{it:uV}{J:Ρ}{v:V} (h:ao D (.comp elt k it c) J=.ok v):∃ l,v=.list l:=by
 rw[CK] at h
 cases q:gI D it J with
 | ok xs=>
  rw[q,R.bind,R.guard] at h
  split at h
  ·revert h
   generalize (eT _ _)=r
   intro h
   cases r with
   | ok l=>injection h with h;subst h;exact⟨_,rfl⟩
   | exc x=>contradiction
   | stuck=>contradiction
  ·contradiction
 | exc x=>rw[q] at h;contradiction
 | stuck=>rw[q] at h;contradiction
theorem Px {elt c:PE}{k i:Nat}{it:uV}{J:Ρ}:bT D (.assign i (.comp elt k it c)) J=(ao D (.comp elt k it c) J).on J fun v=>match v with | .list _=>.next (J.set i (some v)) | .cj _=>.next (J.set i (some v)) | _=>.stuck:=by
 rw[zy]
 cases q:ao D (.comp elt k it c) J with
 | ok v=>refine Exists.elim (H9 q) fun l aw=>?_;subst aw;rfl
 | exc x=>rfl
 | stuck=>rfl
theorem Py {own:Option Nat}{a b:f9}{x y:List Stmt}{p q:aB} (h1:Pw prog w base D n sc j own a x p) (h2:Pw prog w base D n sc j own b y q):∀ {t:Expr}{c:PE}{pos:Pos},gE prog w base dB D n sc j t c->YF prog w base D n sc j own (a.join b) (.If t x y pos) (.ite c p q):=by
 intro t c pos ht
 cases a with
 | any=>cases b with
  | any=>exact fun o=>bL.ite ht (h1 o) (h2 o)
  | is o=>exact bL.ite ht (h1 o) h2
 | is o=>cases b with
  | any=>exact bL.ite ht h1 (h2 o)
  | is o'=>
   unfold f9.join
   dsimp only
   by_cases e:o=o'
   ·subst e;rw[if_pos rfl];exact bL.ite ht h1 h2
   ·rw[if_neg e];exact bL.ite ht (b0.O1 h1) (b0.O1 h2)
theorem LX {own:Option Nat}{r:f9}{x:List Stmt}{p:aB} (h:Pw prog w base D n sc j own r x p) (hf:r.fits own=true):b0 prog w base dB D n own own sc j x p:=by
 cases r with
 | any=>exact h own
 | is a=>
  unfold f9.fits at hf
  rw[Bool.or_eq_true] at hf
  rcases hf with q | q
  ·rw[<- of_decide_eq_true q] at h ⊢
   have:=of_decide_eq_true q
   subst this
   exact h
  ·have:=of_decide_eq_true q
   subst this
   exact b0.O1 h
theorem LY {own:Option Nat}{i:Nat} (h:own≠some i):∀ aaQ,own=some aaQ->i≠aaQ:=fun aaQ q e=>h (by rw[q,e])
theorem dK (hs:wM j=true) {x:PySem.Str}{i:Nat} (hl:pA sc j x i=true):sc.names.lookup x=some .local/\j.lookup x=some i/\∀ z,j.lookup z=some i->z=x:=by
 unfold wM at hs
 unfold pA at hl
 simp only[Bool.and_eq_true,decide_eq_true_eq] at hs hl
 exact⟨hl.1,hl.2,fun z q=>Cv hs.2 hl.2 q⟩
theorem DF (hs:wM j=true):(j.map (·.1)).Nodup:=by
 unfold wM at hs
 simp only[Bool.and_eq_true,decide_eq_true_eq] at hs
 exact hs.1
theorem hO {x:PySem.Str} (q:sF x=true):(x == ("__debug__":PySem.Str))=false/\(x == ("__classdict__":PySem.Str))=false:=by
 unfold sF at q
 simpa only [Bool.and_eq_true,Bool.not_eq_true'] using q
def YS (gl:Gl) (sc:Scope) (j:Sg) (own:Option Nat) (p:PS) (s:Stmt) (r:f9):Prop:=∀ c:wL gl,YF c.prog c.w c.base c.D c.n sc j own r s p
def Tp (gl:Gl) (sc:Scope) (j:Sg) (own:Option Nat) (p:aB) (s:List Stmt) (r:f9):Prop:=∀ c:wL gl,Pw c.prog c.w c.base c.D c.n sc j own r s p
def YR (gl:Gl) (sc:Scope) (j:Sg) (x:dC) (ps:fZ) (s:Stmt):Prop:=∀ c:wL gl,pP c.prog c.w c.base dB c.D c.n sc j s x ps
def YH (gl:Gl) (sc:Scope) (j:Sg) (hs:Ip) (es:List ExceptHandler):Prop:=∀ c:wL gl,BL c.prog c.w c.base dB c.D c.n none sc j es hs
noncomputable def Tq (P:f9->Prop):=Option (PSigma P)
noncomputable def res {P:f9->Prop} (r:f9) (h:P r):Tq P:=some ⟨r,h⟩
noncomputable def with' {P:f9->Prop}{α:Type}:Tq P->((r:f9)->P r->Option α)->Option α
 | some h,k=>k h.1 h.2
 | none,_=>none
noncomputable def QM (v:Value) (C:Addr):Bool:=match v with
 | .ref aaP=>decide (C=aaP)
 | _=>false
noncomputable def QN (v:Value) (C:String):Bool:=match v with
 | .type aaP=>decide (C=aaP)
 | _=>false
theorem LZ {v:Value}{C:Addr} (h:QM v C=true):v=.ref C:=by
 cases v<;>first | (contradiction;done) | rw[of_decide_eq_true h]
theorem L0 {v:Value}{C:String} (h:QN v C=true):v=.type C:=by
 cases v<;>first | (contradiction;done) | rw[of_decide_eq_true h]
theorem Pz {y:PySem.Str}{yp pos:Pos} (h1:cy sc y=true) (u:gl.lookup y=some (.own 49)):YR gl sc j .syntax .nil (.Raise (some (.Name y yp)) none pos):=fun c=>pP.own c.H.W (bw h1).1 (c.H.gl _ _ u) c.H.exc (bw h1).2.1
theorem Ia {y:PySem.Str}{yp pos:Pos} (h1:cy sc y=true) (u:gl.lookup y=some (.typ "ValueError")):YR gl sc j .value .nil (.Raise (some (.Name y yp)) none pos):=fun c=>pP.value c.H.W (bw h1).1 (c.H.gl _ _ u).1 (c.H.gl _ _ u).2 (bw h1).2.2 (bw h1).2.1
theorem zl {y:PySem.Str}{yp pos:Pos} (h1:cy sc y=true) (u:gl.lookup y=some (.typ "NotImplementedError")):YR gl sc j .bX .nil (.Raise (some (.Name y yp)) none pos):=fun c=>pP.bX c.H.W (bw h1).1 (c.H.gl _ _ u).1 (c.H.gl _ _ u).2 (bw h1).2.2 (bw h1).2.1
theorem Cw {y:PySem.Str}{yp cp pos:Pos}{p:PE}{e:Expr} (h1:cy sc y=true) (hs:notStar e=true) (u:gl.lookup y=some (.typ "ValueError")) (A:YE gl sc j p e):YR gl sc j .value (.cons p .nil) (.Raise (some (.Call (.Name y yp) [e] [] cp)) none pos):=fun c=>
 m6 c.H.W PySem.F.excCall_ValueError PySem.F.excRaise_ValueError rfl (by decide) (by decide) (bw h1).1 (c.H.gl _ _ u).1 (c.H.gl _ _ u).2 (bw h1).2.2 (bw h1).2.1 (A.f c) hs
theorem wO {y:PySem.Str}{yp cp pos:Pos}{p:PE}{e:Expr} (h1:cy sc y=true) (hs:notStar e=true) (u:gl.lookup y=some (.typ "NotImplementedError")) (A:YE gl sc j p e):YR gl sc j .bX (.cons p .nil) (.Raise (some (.Call (.Name y yp) [e] [] cp)) none pos):=fun c=>
 m6 c.H.W PySem.F.excCall_NotImplementedError PySem.F.excRaise_NotImplementedError rfl (by decide) (by decide) (bw h1).1 (c.H.gl _ _ u).1 (c.H.gl _ _ u).2 (bw h1).2.2 (bw h1).2.1 (A.f c) hs
noncomputable def XD {gl:Gl} (L:Lk gl) (sc:Scope) (j:Sg) (x:dC) (ps:fZ) (st:Stmt):nx (YR gl sc j x ps st):=match st with
 | .Raise (some (.Name y _)) none _=>need (cy sc y) fun h1=>match ps with
  | .nil=>match x with
   | .syntax=>got (gl.lookup y) fun g u=>match g,u with
    | .own C,u=>need (decide (C=49)) fun h=>yes (Pz h1 (of_decide_eq_true h ▸ u))
    | _,_=>none
   | .value=>got (gl.lookup y) fun g u=>match g,u with
    | .typ T,u=>need (decide (T="ValueError")) fun h=>yes (Ia h1 (of_decide_eq_true h ▸ u))
    | _,_=>none
   | .bX=>got (gl.lookup y) fun g u=>match g,u with
    | .typ T,u=>need (decide (T="NotImplementedError")) fun h=>yes (zl h1 (of_decide_eq_true h ▸ u))
    | _,_=>none
  | _=>none
 | .Raise (some (.Call (.Name y _) [e] [] _)) none _=>need (cy sc y) fun h1=>need (notStar e) fun h2=>match ps with
  | .cons p .nil=>also (L.E sc j p e) fun A=>match x with
   | .syntax=>none
   | .value=>got (gl.lookup y) fun g u=>match g,u with
    | .typ T,u=>need (decide (T="ValueError")) fun h=>yes (Cw h1 h2 (of_decide_eq_true h ▸ u) A)
    | _,_=>none
   | .bX=>got (gl.lookup y) fun g u=>match g,u with
    | .typ T,u=>need (decide (T="NotImplementedError")) fun h=>yes (wO h1 h2 (of_decide_eq_true h ▸ u) A)
    | _,_=>none
  | _=>none
 | _=>none
def YHc (gl:Gl) (sc:Scope) (j:Sg) (x:PySem.Str) (hc:Hc):Prop:=∀ (c:wL gl) (np:Pos) (A:Around) (X:Addr->Prop) (ec:Env) (J:Ρ) (s:Shared) (Q E:Value->Shared->Prop),At c.base c.n A X none sc j ec J s.heap->Q (H3 hc) s->wpAny (model c.prog c.w) A (eval (.Name x np) ec) Q E s
noncomputable def VM (gl:Gl) (sc:Scope) (j:Sg) (x:PySem.Str) (hc:Hc):nx (YHc gl sc j x hc):=need (cy sc x) fun h1=>got (gl.lookup x) fun g u=>match g,u with
 | .own C,u=>need (QM (H3 hc) C) fun h=>yes fun c np A X ec J s Q E a hQ=>j6 c.H.W a.cx.stays a.ge a.scope (bw h1).1 (c.H.gl _ _ u) (LZ h ▸ hQ) (bw h1).2.1
 | .typ T,u=>need (QN (H3 hc) T) fun h=>yes fun c np A X ec J s Q E a hQ=>cJ c.H.W a.cx.stays a.ge a.scope (bw h1).1 (c.H.gl _ _ u).1 (c.H.gl _ _ u).2 (L0 h ▸ hQ) (bw h1).2.2 (bw h1).2.1
 | _,_=>none
def YB (gl:Gl) (sc:Scope) (j:Sg) (i:Nat) (y:PySem.Str) (py:Pos) (p:PE) (v:Expr):Prop:=∀ (c:wL gl) (own:Option Nat) (pos:Pos) (mV:PS),(∀ elt k it t,p=.comp elt k it t->∀ J,bT c.D mV J=(ao c.D p J).on J fun v=>match v with | .list _=>.next (J.set i (some v)) | .cj _=>.next (J.set i (some v)) | _=>.stuck)->bL c.prog c.w c.base dB c.D c.n own (some i) sc j (.Assign [.Name y py] v pos) mV
theorem Ib {i:Nat}{y:PySem.Str}{py:Pos}{elt t:PE}{k:Nat}{it:uV}{x iter:Expr}{z:PySem.Str}{zp pos:Pos}{ifs:List Expr}{scope:Scope} (hs:wM j=true) (hl:pA sc j y i=true) (h:(wN y py pos scope&&j7 z scope sc&&oJ iter)=true) (I:YI gl sc j it iter)
  (E:YE gl (bA scope sc) ((z,k)::kQ k scope sc j) elt x) (C:YC gl (bA scope sc) ((z,k)::kQ k scope sc j) t ifs):YB gl sc j i y py (.comp elt k it t) (.ListComp x [⟨.Name z zp,iter,ifs,0⟩] scope pos):=fun c own ps mV gh=>by
 simp only[Bool.and_eq_true] at h
 refine p4 (zj h.1.2) fun s1 s2 s3 s4 s5=>?_
 refine b6 (dK hs hl) fun l1 l2 l3=>?_
 exact yV (I c) (C c) (E.f c) s1 s2 s3 s4 s5 LN l1 l2 l3 (fun J=>gh _ _ _ _ rfl J) (H8 h.1.1 l1) (set_plain h.2)
noncomputable def DG {gl:Gl} (L:Lk gl) (sc:Scope) (j:Sg) (hs:wM j=true) (i:Nat) (y:PySem.Str) (hl:pA sc j y i=true) (py:Pos) (p:PE) (e:Expr):nx (YB gl sc j i y py p e):=match p with
 | .comp elt k it t=>match e with
  | .ListComp x [⟨.Name z _,iter,ifs,0⟩] scope pos=>need (wN y py pos scope&&j7 z scope sc&&oJ iter) fun h=>also (L.I sc j it iter) fun I=>also (L.E (bA scope sc) ((z,k)::kQ k scope sc j) elt x) fun E=>also (L.Co (bA scope sc) ((z,k)::kQ k scope sc j) t ifs) fun C=>yes (Ib hs hl h I E C)
  | _=>none
 | _=>none
end
section
variable {gl:Gl}{sc:Scope}{j:Sg}
theorem sH {own o:Option Nat}{r:f9}{p:PS}{ps:aB}{s:Stmt}{t:List Stmt} (A:YS gl sc j own p s (.is o)) (B:Tp gl sc j o ps t r):Tp gl sc j own (.cons p ps) (s::t) r:=fun c=>by
 cases r with
 | any=>exact fun o'=>b0.cons (A c) (B c o')
 | is o'=>exact b0.cons (A c) (B c)
theorem sI {own:Option Nat}{r:f9}{ps:aB}{t:List Stmt} (B:Tp gl sc j own ps t r) (c:wL gl):b0 c.prog c.w c.base dB c.D c.n own none sc j t ps:=by
 cases r with
 | any=>exact B c none
 | is o=>exact b0.O1 (B c)
theorem Cy {own:Option Nat}{o:Option Nat}{p:PS}{s:Stmt} (A:YS gl sc j none p s (.is o)):YS gl sc j own p s (.is o):=fun c=>bL.freeze (A c)
structure Ls (gl:Gl) (sc:Scope) (j:Sg) where
 S:(own:Option Nat)->(p:PS)->(s:Stmt)->Tq (YS gl sc j own p s)
 Ss:(own:Option Nat)->(ps:aB)->(ss:List Stmt)->Tq (Tp gl sc j own ps ss)
 H:(ps:Ip)->(es:List ExceptHandler)->nx (YH gl sc j ps es)
noncomputable def XE (L:Lk gl) (hs:wM j=true) (M:Ls gl sc j) (own:Option Nat) (p:PS) (s:Stmt):Tq (YS gl sc j own p s):=match p with
  | .assign i e=>match s with
   | .Assign [.Name x px] v _=>need (pA sc j x i) fun hl=>either
     (also (DG L sc j hs i x hl px e v) fun C=>res (.is (some i)) fun c=>C c _ _ _ fun elt k it t q J=>by subst q;exact Px)
     (need (ni v) fun h2=>either
      (match own with
       | none=>none
       | some aaQ=>need (decide (i≠aaQ)) fun h3=>also (L.E sc (less j (some aaQ)) e v) fun A=>res (.is (some aaQ)) fun c=>bL.KW (A.f c) (uR (DF hs)) (of_decide_eq_true h3) (dK hs hl).1 (dK hs hl).2.1 (dK hs hl).2.2 (fY h2 _ _))
      (also (L.E sc j e v) fun A=>res (.is none) fun c=>bL.freeze (bL.assign (A.f c) (dK hs hl).1 (dK hs hl).2.1 (dK hs hl).2.2 (fY h2 _ _))))
   | _=>none
  | .own i e=>match s with
   | .Assign [.Name x px] v _=>need (pA sc j x i) fun hl=>either
     (also (DG L sc j hs i x hl px e v) fun C=>res (.is (some i)) fun c=>C c _ _ _ fun elt k it t q J=>by skip;try rfl)
     (need (ni v) fun h2=>need (H4 e) fun h3=>also (L.E sc j e v) fun A=>res (.is (some i)) fun c=>bL.build (A c true fun O=>h3) (dK hs hl).1 (dK hs hl).2.1 (dK hs hl).2.2 (fY h2 _ _))
   | _=>none
  | .aug i e=>match s with
   | .AugAssign (.Name x _) .Add v _=>need (pA sc j x i) fun hl=>need (decide (own≠some i)) fun h2=>also (L.E sc j e v) fun A=>res (.is own) fun c=>bL.aug (A.f c) (dK hs hl).1 (dK hs hl).2.1 (dK hs hl).2.2 (LY (of_decide_eq_true h2))
   | _=>none
  | .setItem i aaQ e=>match s with
   | .Assign [.Subscript (.Name x _) ie _] v _=>need (decide (own=some i)) fun h1=>need (decide (j.lookup x=some i)) fun h2=>need (sF x) fun h3=>need (ni v) fun h4=>also (L.E sc j e v) fun A=>also (L.E sc j aaQ ie) fun B=>res (.is none) fun c=>of_decide_eq_true h1 ▸ bL.setItem (A.f c) (B.f c) (of_decide_eq_true h2) (hO h3).1 (hO h3).2 (fY h4 _ _)
   | _=>none
  | .append i e=>match s with
   | .Expr (.Call (.Attribute (.Name x _) a ap) [v] [] cp) _=>need (decide (a="append")) fun h0=>need (decide (own=some i)) fun h1=>need (decide (j.lookup x=some i)) fun h2=>need (sF x) fun h3=>need (notStar v) fun h4=>need (ap.endLine == cp.line) fun h5=>also (L.E sc j e v) fun A=>res (.is (some i)) fun c=>by
     obtain rfl:=of_decide_eq_true h0
     obtain rfl:=of_decide_eq_true h1
     exact bL.append (A.f c) (of_decide_eq_true h2) h4 h5 (hO h3).1 (hO h3).2 fun O=>rfl
   | _=>none
  | .push i e=>match s with
   | .Expr (.Call (.Attribute (.Name x _) a ap) [v] [] cp) _=>need (decide (a="append")) fun h0=>need (decide (own=some i)) fun h1=>need (decide (j.lookup x=some i)) fun h2=>need (sF x) fun h3=>need (notStar v) fun h4=>need (ap.endLine == cp.line) fun h5=>also (L.E sc j e v) fun A=>res (.is (some i)) fun c=>by
     obtain rfl:=of_decide_eq_true h0
     obtain rfl:=of_decide_eq_true h1
     exact bL.push (σ':=j) (A.f c) (of_decide_eq_true h2) h4 h5 (hO h3).1 (hO h3).2 fun O=>rfl
   | _=>none
  | .ite t a b=>match s with
   | .If e x y _=>also (L.T sc j t e) fun T=>with' (M.Ss own a x) fun r A=>with' (M.Ss own b y) fun r' B=>res (r.join r') fun c=>Py (A c) (B c) (T c)
   | _=>none
  | .while t b=>match s with
   | .While e x [] _=>also (L.T sc j t e) fun T=>with' (M.Ss own b x) fun r A=>need (r.fits own) fun h=>res (.is own) fun c=>bL.while (T c) (LX (A c) h)
   | _=>none
  | .for i it b=>match s with
   | .For (.Name x _) iter y [] _=>need (pA sc j x i) fun hl=>need (decide (own≠some i)) fun h2=>need (oJ iter) fun h3=>also (L.I sc (less j own) it iter) fun I=>with' (M.Ss own b y) fun r A=>need (r.fits own) fun h=>res (.is own) fun c=>bL.for (I c) (LW (DF hs)) (LY (of_decide_eq_true h2)) (dK hs hl).1 (dK hs hl).2.1 (dK hs hl).2.2 (LX (A c) h) (set_plain h3)
   | _=>none
  | .ret e=>match s with
   | .Return (some v) _=>also (L.E sc j e v) fun A=>res .any fun c o=>bL.ret (A.f c)
   | _=>none
  | .raise x as=>also (XD L sc j x as s) fun A=>res .any fun c o=>bL.raise (A c)
  | .try b nO=>match s with
   | .Try y (h::hr) [] [] _=>with' (M.Ss none b y) fun r A=>also (M.H nO (h::hr)) fun B=>res (.is none) fun c=>bL.freeze (bL.try (sI A c) (B c))
   | _=>none
  | .expr e=>match s with
   | .Expr v _=>need (ni v) fun h=>also (L.E sc j e v) fun A=>res (.is own) fun c=>bL.expr (A.f c) (fY h _ _)
   | _=>none
noncomputable def VN (L:Lk gl) (M:Ls gl sc j) (own:Option Nat) (ps:aB) (ss:List Stmt):Tq (Tp gl sc j own ps ss):=match ps with
  | .nil=>match ss with
   | []=>res (.is own) fun c=>b0.nil
   | _=>none
  | .cons p r=>match ss with
   | []=>none
   | s::t=>either
    (with' (M.S own p s) fun q A=>match q,A with
     | .is o,A=>with' (M.Ss o r t) fun q B=>res q (sH A B)
     | .any,A=>match r with
      | .nil=>match t with
       | []=>res .any fun c o=>b0.cons (A c o) b0.nil
       | _=>none
      | .cons p' r'=>with' (M.Ss none (.cons p' r') t) fun q B=>res q (sH (fun c=>A c none) B))
    (with' (M.S none p s) fun q A=>match q,A with
     | .is o,A=>with' (M.Ss o r t) fun q B=>res q (sH (Cy A) B)
     | .any,_=>none)
noncomputable def XF (L:Lk gl) (M:Ls gl sc j) (ps:Ip) (es:List ExceptHandler):nx (YH gl sc j ps es):=match ps with
  | .nil=>match es with
   | []=>yes fun c=>O3
   | _=>none
  | .cons k b r=>match es with
   | .ExceptHandler (some (.Name x _)) none (s::t) _::rest=>also (VM gl sc j x k) fun K=>with' (M.Ss none b (s::t)) fun q A=>also (M.H r rest) fun B=>yes fun c=>BL.cons (Ci c.H.cls _) (K c _) (sI A c) (B c)
   | _=>none
noncomputable def ls (L:Lk gl) (hs:wM j=true):Nat->Ls gl sc j
 | 0=>⟨fun O O O=>none,fun O O O=>none,fun O O=>none⟩
 | n+1=>⟨XE L hs (ls L hs n),VN L (ls L hs n),XF L (ls L hs n)⟩
end
section
variable {prog:Program}{w:World}{base:Heap}{cl:dC->Value}{A:Around}{X:Addr->Prop}{s:Shared}{D:Fn->List V->R V}{n:Nat}{sc:Scope}{j:List (PySem.Str × Nat)}{K:Frag}
set_option tactic.hygienic true in
theorem pB {d:a0}{ds:List V}{J:Ρ} (Sn:d.defaults=[]) (h:d.start ds=some J):ds.length=d.params/\J=ds.map some++List.replicate (d.locals - d.params) none:=by
 unfold a0.start at h
 rw[Sn] at h
 split at h
 ·rename_i q
  simp at q
  refine⟨by lia,?_⟩
  simpa using h.symm
 ·contradiction
theorem zm {fd:FuncData}{ps:List PySem.Str}{d:a0} (hd:d.params=ps.length) (Sn:d.defaults=[]) (h:∀ vs:List Value,vs.length=ps.length->bindArgs fd ⟨vs,[]⟩=pure (ps.zip vs)):Binds K fd ps d:=fun s g ds vs J jC gh rp=>by
 refine aC (pB Sn gh) fun h1 h2=>?_
 have hl:=rp.length
 exact⟨vs,ds,_,BindsTo.of_eq (h vs (by lia)),by lia,rp,h2⟩
theorem wQ {de:Option Nat}{a:Addr}{fd:FuncData}{body:List Stmt}{hJ Ic:PySem.Str}{d:a0} (W:Wd K base) (I:K6 K a fd body [hJ,Ic] j) (dv:fd.scope.names.lookup hJ=some .cell) (pL:fd.scope.names.lookup Ic=some .local) (Sl:∀ y,(y,NameKind.cell)∈fd.scope.names->y=hJ)
  (HG:∀ b,(cellsFrom b fd.scope.names []).lookup hJ=some b) (hd:d.params=2) (Sn:d.defaults=[]) (mI:∀ v u,bindArgs fd ⟨[v,u],[]⟩=pure [(hJ,v),(Ic,u)])
  (hb:b0 prog w base cl D n none de fd.scope j body d.body) (ds:List V) (vs:List Value) (cx:Cx base A s.heap (n+1)) (low:nu X s.heap) (new:∀ a,X a->base.get? a=none) (rp:az (seen X s.heap) ds vs) :
  kM prog w base cl A X false (call (.ref a) vs []) s (match d.start ds with | some J=>(ak D d.body J).value | none=>.stuck):=by
 cases gh:d.start ds with
 | none=>exact .stuck
 | some J=>
  intro Q E p au
  refine kR W.top fun Vn loose mg mb T=>?_
  have jC:K.In s.heap:=fun b o q=>cx.stays b o (W.jC b o q)
  refine aC (pB Sn gh) fun A0 aw=>?_;subst aw
  rw[hd] at A0
  obtain⟨iX,yT,rfl⟩:∃ iX yT,ds=[iX,yT]:=by
   match ds,A0 with
   | [a,b],_=>exact⟨a,b,rfl⟩
  have Tj:=rp
  simp only[du,c5] at Tj
  obtain⟨BK,r,rfl,r0,VP,r',rfl,r1,rfl⟩:=Tj
  refine eR I.here fun oc od Wi hl=>?_
  have YG:=I.nodup
  have hxx:hJ≠Ic:=by
   rw[List.nodup_cons] at YG
   intro e;exact YG.1 (by rw[e];exact .head _)
  have O6:(cellsFrom (s.heap.objs.size+1) fd.scope.names []).lookup hJ=some (s.heap.objs.size+1):=HG _
  refine lE (mJ (fd:=fd) (body:=body) (binds:=[(hJ,BK),(Ic,VP)]) (by have:=cx.depth;show A.depth<1000;lia) (jC _ _ hl) rfl (T.nolimit.keeps cx.stays) (codeRec_of jC I.code) I.body (mI BK VP) I.closure
   (fun x hx=>by
    simp at hx
    rcases hx with rfl | rfl
    ·exact .inr ⟨dv,by rw[O6];rfl⟩
    ·exact .inl pL) (fun s₁ ic=>?_) I.co I.gen I.kind)
  refine bW ic.toInCall.same fun aj tk aw=>?_;subst aw
  have ge:Ge (callEnvC fd s.heap.objs.size a):=⟨I.kind,I.globals,I.builtins,fun y hy=>by
   rcases hy with hy | hy
   ·obtain rfl:=Sl y (lookup_mem hy)
    exact⟨_,O6⟩
   ·exact absurd rfl (I.BO _ (lookup_mem hy))⟩
  refine wx (j:=j) (sc:=fd.scope) hb cx low new rfl rfl rfl rfl ge ic.toInCall.ns ic.toInCall.keep rp (fun x i v e1 e2=>?_) p fun q=>au (by dsimp only;rw[q];rfl)
  have hi:i<2:=by have:=(List.getElem?_eq_some_iff.mp e2).1;simpa using this
  have hx:=I.slots x i e1 hi
  have hk:(callEnvC fd s.heap.objs.size a).kindOf hJ=some .cell:=dv
  have YJ:(callEnvC fd s.heap.objs.size a).kindOf Ic=some .local:=pL
  obtain rfl | rfl:i=0∨i=1:=by lia
  ·simp at hx e2
   subst hx;subst e2
   refine .inr ⟨.inl dv,s.heap.objs.size+1,O6,?_⟩
   have hc:=ic.cell hJ _ O6
   simp only[yX,yW,hk,YJ] at hc
   simpa using hc
  ·simp at hx e2
   subst hx;subst e2
   refine .inl ⟨pL,_,ic.toInCall.ns,?_⟩
   simp only[K5,K4,hk,YJ]
   simp
noncomputable def eX (K:Frag) (a:Addr):FuncData:=match K.lookup a with
 | some ⟨_,_,.func fd,_⟩=>fd
 | _=>default
def Cz (K:Frag) (gl:Gl) (a:Addr) (ps:List PySem.Str) (j:Sg) (b:aB):Prop:=∃ body,K6 K a (eX K a) body ps j/\∀ c:wL gl,b0 c.prog c.w c.base dB c.D c.n none none (eX K a).scope j body b
noncomputable def wR (fd:FuncData):Bool:=decide (fd.globals=mainGlobals)&&decide (fd.builtins=builtinsNs)&&fd.closure.isEmpty&&!fd.scope.isCoroutine&&!fd.scope.isGenerator&&decide (fd.scope.kind=.function)&&fd.scope.names.all (fun z=>decide (z.2≠.free))
noncomputable def wU (ps:List PySem.Str) (j:Sg):Bool:=j.all (fun z=>decide (ps.length<=z.2)||decide (ps[z.2]?=some z.1))
theorem PA {K:Frag}{gl:Gl}{a:Addr}{c:_}{d:_}{fd:FuncData}{sl:_}{ps:List PySem.Str}{j:Sg}{b:aB}{body:List Stmt}{r:f9} (q:K.lookup a=some ⟨c,d,.func fd,sl⟩) (qb:fd.body=.stmts body) (h1:codeIn K fd.code fd.qualname=true) (h2:wR fd=true) (h3:decide ps.Nodup=true) (h4:wU ps j=true) (B:Tp gl fd.scope j none b body r):Cz K gl a ps j b:=by
 have e:eX K a=fd:=by unfold eX;rw[q]
 unfold wR at h2
 unfold wU at h4
 simp only[Bool.and_eq_true,decide_eq_true_eq,List.all_eq_true,Bool.or_eq_true,Bool.not_eq_true',List.isEmpty_iff] at h2 h4
 refine aC h2 fun mw g8=>?_;obtain⟨⟨⟨⟨⟨g2,g3⟩,g4⟩,g5⟩,g6⟩,g7⟩:=mw
 unfold Cz
 rw[e]
 exact⟨body,⟨⟨_,_,_,q⟩,h1,qb,g2,g3,g4,g5,g6,g7,g8,of_decide_eq_true h3,fun x i e hi=>(h4 _ (lookup_mem e)).resolve_left fun z=>absurd hi (Nat.not_lt.mpr z)⟩,fun c=>sI B c⟩
noncomputable def VQ (K:Frag) (gl:Gl) (a:Addr) (ps:List PySem.Str) (j:Sg) (b:aB):nx (Cz K gl a ps j b):=got (K.lookup a) fun o q=>match o,q with
 | ⟨_,_,.func fd,_⟩,q=>match eb:fd.body with
  | .stmts body=>need (codeIn K fd.code fd.qualname) fun h1=>need (wR fd) fun h2=>need (decide ps.Nodup) fun h3=>need (wU ps j) fun h4=>need (wM j) fun hs=>with' ((ls (sc:=fd.scope) (lk gl 100) hs 100).Ss none b body) fun r B=>yes (PA q eb h1 h2 h3 h4 B)
  | _=>none
 | _,_=>none
noncomputable def QO (K:Frag) (gl:Gl) (a:Addr) (ps:List PySem.Str) (j:Sg) (b:aB):Bool:=(VQ K gl a ps j b).isSome
theorem zr {prog:Program}{w:World}{base:Heap}{D:Fn->List V->R V}{n:Nat}{K:Frag}{fa:Fn->Addr}{gl:Gl} (H:VH prog w base D n K fa gl) {a:Addr}{ps:List PySem.Str}{j:Sg}{b:aB} (h:QO K gl a ps j b=true) :
  ∃ body,K6 K a (eX K a) body ps j/\b0 prog w base dB D n none none (eX K a).scope j body b:=by
 refine Exists.elim (Option.isSome_iff_exists.mp h) fun mw O=>?_;obtain⟨body,I,S⟩:=mw
 exact⟨body,I,S ⟨prog,w,base,D,n,K,fa,H⟩⟩
noncomputable def qf (K:Frag) (a:Addr) (ps:List PySem.Str):Bool:=(eX K a).scope.names.all (fun z=>decide (z.2≠.cell))&&ps.all fun x=>decide ((eX K a).scope.names.lookup x=some .local)
theorem sJ {K:Frag}{a:Addr}{ps:List PySem.Str} (h:qf K a ps=true):(∀ x∈(eX K a).scope.names,x.2≠.cell)/\∀ x∈ps,(eX K a).scope.names.lookup x=some .local:=by
 unfold qf at h
 simpa only [Bool.and_eq_true,List.all_eq_true,decide_eq_true_eq] using h
noncomputable def CB (K:Frag) (a:Addr) (x:PySem.Str):Bool:=decide ((eX K a).scope.names.lookup x=some .cell)&&(eX K a).scope.names.all fun z=>decide (z.2≠.cell)||decide (z.1=x)
theorem Ie {K:Frag}{a:Addr}{x:PySem.Str} (h:CB K a x=true):(eX K a).scope.names.lookup x=some .cell/\∀ y,(y,NameKind.cell)∈(eX K a).scope.names->y=x:=by
 unfold CB at h
 simp only[Bool.and_eq_true,List.all_eq_true,decide_eq_true_eq,Bool.or_eq_true] at h
 exact⟨h.1,fun y hy=>(h.2 _ hy).resolve_left fun e=>e rfl⟩
def YV (d:V) (v:Value):Prop:=∀ g:Addr->Obj->Prop,Rep g d v
noncomputable def L2:(d:V)->(v:Value)->nx (YV d v)
 | .int i,v=>match v with
  | .int aaQ _=>need (decide (aaQ=i)) fun h=>yes fun g=>by obtain rfl:=of_decide_eq_true h;skip;exact⟨_,rfl⟩
  | _=>none
 | .str l,v=>match v with
  | .str x _=>need (decide (x.cps.toList=l)) fun h=>need (decide (l.length<=1000)) fun h2=>yes fun g=>by
    have:=of_decide_eq_true h2
    skip;exact⟨_,_,rfl,of_decide_eq_true h,by omega⟩
  | _=>none
 | .bytes l,v=>match v with
  | .bytes x _=>need (decide (x.toList.map UInt8.toNat=l)) fun h=>need (decide (l.length<=1000)) fun h2=>yes fun g=>by
    have:=of_decide_eq_true h2
    skip;exact⟨_,_,rfl,of_decide_eq_true h,by omega⟩
  | _=>none
 | _,_=>none
def YVs (ds:List V) (vs:List Value):Prop:=∀ g:Addr->Obj->Prop,az g ds vs
noncomputable def DH:(ds:List V)->(vs:List Value)->nx (YVs ds vs)
 | [],vs=>match vs with
  | []=>yes fun g=>.nil
  | _=>none
 | d::ds,vs=>match vs with
  | []=>none
  | v::vs=>also (L2 d v) fun A=>also (DH ds vs) fun B=>yes fun g=>.cons (A g) (B g)
def XG (K:Frag) (fa:Fn->Addr) (x:PySem.Str) (g:GV):Prop:=Wl K fa x g
noncomputable def VR (K:Frag) (fa:Fn->Addr) (x:PySem.Str) (g:GV):nx (XG K fa x g):=got (nsIn K mainGlobals x) fun z q=>match g with
 | .val d=>match z,q with
  | none,_=>none
  | some v,q=>either (also (L2 d v) fun A=>yes ⟨_,q,fun g O=>A g⟩)
   (match d with
    | .tuple ds=>match v,q with
     | .ref a,q=>got (K.lookup a) fun o q2=>match o,q2 with
      | ⟨.type T,_,.seq vs _,_⟩,q2=>need (decide (T="tuple")) fun h1=>need (decide (ds.length<=1000)) fun h2=>also (DH ds vs.toList) fun A=>yes ⟨_,q,fun g hg=>by
        obtain rfl:=of_decide_eq_true h1
        have:=of_decide_eq_true h2
        exact⟨_,_,_,_,rfl,hg _ _ q2,rfl,rfl,by omega,A g⟩⟩
      | _,_=>none
     | _,_=>none
    | _=>none)
 | .fn f=>match z,q with
  | some (.ref a),q=>need (decide (a=fa f)) fun h1=>got (K.lookup a) fun o q2=>match o,q2 with
   | ⟨_,_,.func _,_⟩,q2=>yes (by obtain rfl:=of_decide_eq_true h1;exact⟨q,_,_,_,_,q2⟩)
   | _,_=>none
  | _,_=>none
 | .builtin id=>match z,q with
  | none,q=>got (bootBuiltins x) fun v q2=>match v,q2 with
   | .builtin i,q2=>need (decide (i=id)) fun h=>yes ⟨q,of_decide_eq_true h ▸ q2⟩
   | _,_=>none
  | _,_=>none
 | .typ T=>match z,q with
  | none,q=>got (bootBuiltins x) fun v q2=>match v,q2 with
   | .type i,q2=>need (decide (i=T)) fun h=>yes ⟨q,of_decide_eq_true h ▸ q2⟩
   | _,_=>none
  | _,_=>none
 | .own C=>match z,q with
  | some (.ref a),q=>need (decide (a=C)) fun h=>yes (of_decide_eq_true h ▸ q)
  | _,_=>none
noncomputable def PC (K:Frag) (fa:Fn->Addr) (x:PySem.Str) (g:GV):Bool:=(VR K fa x g).isSome
theorem PD {K:Frag}{fa:Fn->Addr}{x:PySem.Str}{g:GV} (h:PC K fa x g=true):Wl K fa x g:=by
 refine Exists.elim (Option.isSome_iff_exists.mp h) fun mw O=>?_;obtain⟨A⟩:=mw
 exact A
theorem QP {K:Frag}{fa:Fn->Addr}{gl:Gl} (h:gl.all (fun z=>PC K fa z.1 z.2)=true):∀ x g,gl.lookup x=some g->Wl K fa x g:=fun x g e=>by
 rw[List.all_eq_true] at h
 exact PD (h _ (lookup_mem e))
end
noncomputable def looked (t u:Sem PySem.Fin):Sem PySem.Fin:=do
 let st <- stack
 if st.all fun x=>calm x.1 then t else u
theorem wV {den:Code->Sem PySem.Fin}{prog:Program}{w:World}{s:Shared}{t u:Sem PySem.Fin} (hs:s.asleep) :
  sstep den prog w (.single s ⟨looked t u,.builtin "claim.caller" {},default,[]⟩)=.go (.single s ⟨t,.builtin "claim.caller" {},default,[]⟩):=by
 have e:step den prog w s ⟨looked t u,.builtin "claim.caller" {},default,[]⟩=.go s ⟨if ([(.builtin "claim.caller" {},default)]:List (Code × Pos)).all (fun x=>calm x.1) then t else u,.builtin "claim.caller" {},default,[]⟩:=rfl
 rw[if_pos (by decide +kernel)] at e
 rcases sstep_single den prog w s ⟨looked t u,.builtin "claim.caller" {},default,[]⟩ (by kernel_rfl) hs with q | q
 ·rw[q,e];rfl
 ·rw[e] at q;contradiction
theorem zt {den:Code->Sem PySem.Fin}{prog:Program}{w:World}{s s':Shared}{t u:Sem PySem.Fin}{o:Outcome}{n:Nat} (hs:s.asleep)
  (h:schedN den prog w n (.single s ⟨looked t u,.builtin "claim.caller" {},default,[]⟩)=.halted o s'):∃ m,schedN den prog w m (.single s ⟨t,.builtin "claim.caller" {},default,[]⟩)=.halted o s':=by
 cases n with
 | zero=>contradiction
 | succ n=>
  rw[schedN,wV hs] at h
  exact⟨n,h⟩
theorem wW {c:ClaimW}{tree:List Value->Sem PySem.Fin}{u:Sem PySem.Fin}{defs keeps:List PySem.Str}{writes:Bool}
  (h:c.HoldsOpenBy (fun vs=>⟨looked (tree vs) u,.builtin "claim.caller" {},default,[]⟩) defs keeps writes):c.HoldsOpenBy (fun vs=>⟨tree vs,.builtin "claim.caller" {},default,[]⟩) defs keeps writes:=by
 refine⟨h.1,h.2.1,fun w=>⟨(h.2.2 w).1,fun s hs=>?_⟩⟩
 obtain⟨s₀,a1,a2,s₁,a3,a4,a5,a6,a7⟩:=(h.2.2 w).2 s hs
 refine⟨s₀,a1,a2,s₁,a3,a4,a5,a6,fun args h1 h2 ord h3=>?_⟩
 obtain⟨vs,a9,b1,n,o,s',b2,b3⟩:=a7 args h1 h2 ord h3
 have z:AfterImport (opening c.prog) w s:=hs
 obtain⟨m,hm⟩:=zt (Shared.asleep_of_life (layAllW_rest _ _ _ b1).2.2.2 (Shared.asleep_of_life a3.2.1 (Shared.asleep_of_life (fence_lifeW a1) z.life))) b2
 exact⟨vs,a9,b1,m,o,s',hm,b3⟩
noncomputable def wX (t u:Sem Value):Sem Value:=do
 let st <- stack
 if st.all fun x=>calm x.1 then t else u
theorem sL {Γ:Ctx}{p:Pos}:((Γ.code,p)::Γ.below).all (fun x=>calm x.1)=true↔Calm Γ:=by
 rw[List.all_eq_true]
 exact⟨fun q=>⟨q _ (.head _),fun x hx=>q x (.tail _ hx)⟩,fun q x hx=>by
  rcases List.mem_cons.mp hx with e | e
  ·rw[e];exact q.1
  ·exact q.2 x e⟩
theorem CC {M:Model}{A:Around}{t u:Sem Value}{s:Shared}{Q:Value->Shared->Prop}{E:Value->Shared->Prop} (ht:aL M A t Q E s) (hu:wpAny M A u Q E s):wpAny M A (wX t u) Q E s:=fun Γ p a=>by
 show Sem.wp M Γ (if ((Γ.code,p)::Γ.below).all (fun x=>calm x.1) then t else u) _ _ _ _
 by_cases q:((Γ.code,p)::Γ.below).all (fun x=>calm x.1)=true
 ·rw[if_pos q]
  exact ht Γ p a (sL.mp q)
 ·rw[if_neg q]
  exact hu Γ p a
theorem Ig {M:Model}{A:Around}{t:Sem Value}{u:Value}{k:Sem PySem.Fin}{s:Shared}{Q:PySem.Fin->Shared->Prop}{E:Value->Shared->Prop} (h:wpAny M A (wX t (pure u)) (fun v s'=>Q (.done (.ret v)) s') E s)
  (hk:aL M A t (fun v s'=>Q (.done (.ret v)) s') E s->aL M A k Q E s):wpAny M A (looked k (ret u)) Q E s:=fun Γ p a=>by
 show Sem.wp M Γ (if ((Γ.code,p)::Γ.below).all (fun x=>calm x.1) then k else ret u) _ _ _ _
 by_cases q:((Γ.code,p)::Γ.below).all (fun x=>calm x.1)=true
 ·rw[if_pos q]
  refine hk (fun Wm p' a' c'=>?_) Γ p a (sL.mp q)
  have h1:Sem.wp M Wm (if ((Wm.code,p')::Wm.below).all (fun x=>calm x.1) then t else pure u) _ _ _ _:=h Wm p' a'
  rw[if_pos (sL.mpr c')] at h1
  exact h1
 ·rw[if_neg q]
  have h1:Sem.wp M Γ (if ((Γ.code,p)::Γ.below).all (fun x=>calm x.1) then t else pure u) _ _ _ _:=h Γ p a
  rw[if_neg q] at h1
  exact h1
abbrev WalkG (q:Program) (loose:List PySem.Str) (XP:(PySem.Str->Option Value)->Heap->Prop) (YP:World->Heap->Prop) (r:RowW) (d:DefRec) (kwd:List (PySem.Str × Expr)):Prop:=
 ∀ (w:World) (s₀ s₁:Shared) (mg mb:PySem.Str->Option Value),Ground q loose r.records XP w s₀ mg mb s₁.heap->YP w s₁.heap->∀ (a:Addr) (o:Obj) (pm cd doc dV kV:Value),s₁.heap.get? a=some o->
  o.data=.func { docDef d.name d.params d.body d.scope pm cd doc with defaults:=dV,kwdefaults:=kV }->s₁.heap.CodeRec cd d.name->Dflts mg s₁.heap d.params kwd dV kV->mg d.name=some (.ref a)->s₁.gens=#[]->
  ∀ (args:List WData) (vals:List Value) (as:List Addr),r.claim.pre args=true->WData.layableAll args=true->ReadsAllW r.records (classAt s₀.heap) s₁.heap vals args as->WellAll w.params s₁.heap vals args->(∀ a∈as,(a == sysModules)=false)->
   aL (model r.prog w) callerA (PySem.call (.ref a) vals) (fun v s'=>GoodWG r.claim (classAt s₀.heap) (ExcName.means s₀.heap) args s₁ (.ok (.ret v)) s')
    (fun e s'=>GoodWG r.claim (classAt s₀.heap) (ExcName.means s₀.heap) args s₁ (.error e) s') s₁/\GoodWG r.claim (classAt s₀.heap) (ExcName.means s₀.heap) args s₁ (.ok (.ret (.bool true))) s₁
theorem CD {r:OpenRow}{q:Program}{loose:List PySem.Str}{Xt:Shared->Bool}{XP:(PySem.Str->Option Value)->Heap->Prop}{α:Type}{Yf:Shared->α}{Ya:World->α}{YP:World->Heap->Prop}{d:DefRec}{kwd:List (PySem.Str × Expr)}{N:Nat}
  (left:LeftO r.prog q loose Xt Yf Ya N) (hY:∀ w s,Yf s=Ya w->YP w s.heap) (hYk:∀ w h h',YP w h->(∀ b o,h.get? b=some o->h'.get? b=some o)->YP w h')
  (hX:∀ s,Xt s=true->XP (s.heap.nsMap mainGlobals) s.heap) (hXk:∀ mg h h',XP mg h->(∀ b o,h.get? b=some o->h'.get? b=some o)->XP mg h')
  (SG:defOf q r.name=some (d,kwd)) (hp:r.prog.theDef r.name=some (d.params,d.body,d.scope)) (hk:kwWritten? d.params.kwonlyargs d.params.kw_defaults=some kwd) (hRf:∀ s,Xt s=true->RecFacts r.records s.heap) (hwr:(!r.writes||r.records.isEmpty)=true)
  (k1:r.wellSaid=true) (ok:(chainsOk q&&opensWell r.prog&&(frees r.toRowW&&r.within.isEmpty))=true) (hb:r.prog.bare) (hw:r.toRowW.promised)
  (call:WalkG q loose XP YP r.toRowW d kwd):r.Holds:=by
 refine⟨k1,hw,wW (u:=ret (.bool true)) (open_anyG (r:=r.toRowW) (run:=fun f vs=>wX (PySem.call f vs) (pure (.bool true))) left hY hYk hX hXk hRf hwr ok hb hw (fun vs w s mg f Q E hg hf h=>?_) (fun w s hg G n hn=>?_) fun w s₀ s₁ mg mb G Y args vs as SJ hlay L low=>?_)⟩
 ·exact Ig h fun h'=>aJ (ag (wpAny_nsGet hg (by rw[hf];exact ay h' fun O O x=>aG x)))
 ·obtain rfl:n=r.name:=by split at hn<;>simp_all
  exact pinned_of_view hg G SG hp hk
 ·obtain⟨a,o,pm,cd,doc,dV,kV,h1,h2,h3,h4,h5⟩:=G.fn SG
  obtain⟨c1,c2⟩:=call w s₀ s₁ mg mb G Y a o pm cd doc dV kV h2 h3 h4 h5 (defOf_name SG ▸ h1) L.gens args vs as SJ hlay L.reads L.well (L.low low)
  exact⟨.ref a,h1,CC c1 (wpAny_pure c2)⟩
end Mine.Internal
namespace Mine.Internal
noncomputable def fa:Fn->Addr
 | .fi=>82
 | .eB=>87
 | .i6=>94
 | .fM=>99
 | .qh=>106
 | .bN=>114
 | .mapped=>121
 | .i7=>128
 | .uS=>135
 | .uT=>142
 | .oN=>149
 | .multi=>156
 | .i9=>163
 | .oO=>170
 | .eY=>177
 | .qi=>185
 | .ia=>192
 | .eO=>199
 | .iN=>206
 | .iO=>211
 | .eZ=>218
 | .gu=>223
 | .lR=>230
 | .jd=>237
 | .lS=>244
 | .gH=>249
 | .bJ=>256
 | .ib=>263
 | .ko=>268
 | .qj=>275
 | .fN=>282
 | .zx=>289
 | .gb=>294
 | .eS=>301
 | .ql=>308
 | .law=>313
noncomputable def gl:Gl:=([("inet_ntoa_ipv4",.fn .fi),("inet_aton_ipv4",.fn .eB),("canonicalize_ipv4",.fn .i6),("inet_ntoa_ipv6",.fn .fM),("_v4_ending",.fn .qh),("inet_aton_ipv6",.fn .bN),("is_mapped",.fn .mapped),("canonicalize_ipv6",.fn .i7),("inet_pton",.fn .uS),("inet_ntop",.fn .uT),("af_for_address",.fn .oN),("is_multicast",.fn .multi),("is_address",.fn .i9),("any_for_af",.fn .oO),("canonicalize_inet",.fn .eY),("_law_at",.fn .qi),("_law_groups",.fn .ia),("_law_octets",.fn .eO),("_law_word",.fn .iN),("_law_dots",.fn .iO),("_law_pairs",.fn .eZ),("_law_canon",.fn .gu),("_law_quad",.fn .lR),("_law_piece",.fn .jd),("_law_side",.fn .lS),("_law_read",.fn .gH),("_law_tell",.fn .bJ),("_law_by_family",.fn .ib),("_law_text",.fn .ko),("_law_there_and_back",.fn .qj)]:Gl)++([("_law_lengths",.fn .fN),("_law_any",.fn .zx),("_law_dotted",.fn .gb),("_law_spelled",.fn .eS),("_law_free",.fn .ql),("law",.fn .law),("_HEX",.val iP),("_mapped_prefix",.val iQ),("AF_INET",.val fB),("AF_INET6",.val eF),("LAW_HEX",.val cN),("LAW_CAPS",.val qt),("LAW_SIGNS",.val dU),("LAW_ROW",.val jN),("isinstance",.builtin "isinstance"),("len",.builtin "len"),("ord",.builtin "ord"),("min",.builtin "min"),("max",.builtin "max"),("bytes",.typ "bytes"),("bytearray",.typ "bytearray"),("str",.typ "str"),("int",.typ "int"),("range",.typ "range"),("Exception",.typ "Exception"),("ValueError",.typ "ValueError"),("NotImplementedError",.typ "NotImplementedError"),("DnsSyntaxError",.own 49),("DNSException",.own 24),("FormError",.own 37),("UnexpectedEnd",.own 61),("TooBig",.own 73)]:Gl)
noncomputable def nm:Fn->List PySem.Str
 | .fi=>["address"]
 | .eB=>["text","btext","parts","part","b"]
 | .i6=>["text"]
 | .fM=>["address","hex","chunks","i","l","chunk","best_start","best_len","start","last_was_zero","end","current_len","prefix","thex"]
 | .qh=>["btext","k","parts","part"]
 | .bN=>["text","ignore_scope","btext","parts","l","m","b","chunks","seen_empty","canonical","c","_","lc","found","k","high","low"]
 | .mapped=>["address"]
 | .i7=>["text"]
 | .uS=>["family","text"]
 | .uT=>["family","address"]
 | .oN=>["text"]
 | .multi=>["text","first"]
 | .i9=>["text"]
 | .oO=>["af"]
 | .eY=>["text"]
 | .qi=>["script","place"]
 | .ia=>["script","groups","place","number","kind","shape"]
 | .eO=>["groups","row","group"]
 | .iN=>["number","width","signs","word"]
 | .iO=>["numbers"]
 | .eZ=>["groups"]
 | .gu=>["groups","words","size","start"]
 | .lR=>["text","numbers","digits","value","sign","worth"]
 | .jd=>["piece","value","sign","worth"]
 | .lS=>["text","ends","groups","pieces","place","value","four"]
 | .gH=>["text","cuts","groups","left","right"]
 | .bJ=>["way","given","family","told"]
 | .ib=>["family","narrow","wide"]
 | .ko=>["text","family","four","groups","scoped","spots","narrow","plain","wide","kin","known","many","shown"]
 | .qj=>["groups","octets","text"]
 | .fN=>["groups","size","family","turned","octets","narrow","wide"]
 | .zx=>["family","narrow","wide"]
 | .gb=>["number","four","parts","fault","spot"]
 | .eS=>["script","at","groups","kind","one","two","low","high","look","fault","spot","scope","quad","pieces","group","signs","text"]
 | .ql=>["number","rest","text"]
 | .law=>["script","groups","family","size","one","two","free","four","dotted","text","first","second"]
noncomputable def nj (f:Fn):List PySem.Str:=(nm f).take (defs f).params
noncomputable def XH (f:Fn):Sg:=(nm f).zipIdx
noncomputable def YK:Fn->Bool
 | .gH=>true
 | .ko=>true
 | .law=>true
 | .bN=>true
 | _=>false
noncomputable def L3:Data->Option ClassData
 | .cls c=>some c
 | _=>none
noncomputable def SK:Data->Option (Array Value)
 | .seq vs _=>some vs
 | _=>none
theorem PF {d:Data}{c:ClassData} (h:L3 d=some c):d=.cls c:=by
 cases d<;>first | contradiction | (injection h with h;rw[h])
theorem PG {d:Data}{vs:Array Value} (h:SK d=some vs):∃ n,d=.seq vs n:=by
 cases d<;>first | contradiction | (injection h with h;rw[h];exact⟨_,rfl⟩)
noncomputable def SM (K:Frag) (C:Addr):Bool:=match K.lookup C with
 | some o=>decide (o.cls=.type "type")&&(L3 o.data).isSome
 | none=>false
noncomputable def CF (K:Frag) (C:Addr):ClassData:=match K.lookup C with
 | some o=>(L3 o.data).getD default
 | none=>default
theorem L4 {K:Frag}{base:Heap}{C:Addr}{m:List Value} (jC:K.In base) (h:SM K C=true) (hm:(CF K C).mro=m):pw base C m:=by
 unfold SM at h
 unfold CF at hm
 cases q:K.lookup C with
 | none=>rw[q] at h;contradiction
 | some o=>
  rw[q] at h hm
  refine aC (Bool.and_eq_true_iff.mp h) fun h1 h2=>?_
  cases e:L3 o.data with
  | none=>rw[e] at h2;contradiction
  | some c=>exact⟨_,_,jC _ _ q,of_decide_eq_true h1,PF e,(show ((L3 o.data).getD default).mro=m from hm) ▸ (by rw[e];rfl)⟩
noncomputable def j8 (K:Frag):Bool:=match K.lookup 107 with
 | some o=>decide ((SK o.data).map Array.toList=some [.bool false])
 | none=>false
theorem SN {K:Frag} (h:j8 K=true):∃ o n,K.lookup 107=some o/\o.data=.seq #[.bool false] n:=by
 unfold j8 at h
 cases q:K.lookup 107 with
 | none=>rw[q] at h;contradiction
 | some o=>
  rw[q] at h
  have h:=of_decide_eq_true h
  cases e:SK o.data with
  | none=>rw[e] at h;contradiction
  | some vs=>
   rw[e] at h
   have h2:vs=#[.bool false]:=Array.toList_inj.mp (Option.some.inj h)
   exact Exists.elim (PG e) fun n hn=>⟨o,n,rfl,h2 ▸ hn⟩
theorem L5 {fd:FuncData}{s:Shared}{p1 p2:Pos}{a1 a2:Option Expr}{oM:List Expr}{T:Addr}{o:Obj}{n:Nat} (hp:fd.params={ posonlyargs:=[],args:=[{ arg:="text",annotation:=a1,pos:=p1 },{ arg:="ignore_scope",annotation:=a2,pos:=p2 }],vararg:=none,kwonlyargs:=[],kw_defaults:=[],kwarg:=none,defaults:=oM })
  (hd:fd.defaults=.ref T) (ho:s.heap.get? T=some o) (hs:o.data=.seq #[.bool false] n) (v:Value):BindsTo s fd ⟨[v],[]⟩ [("text",v),("ignore_scope",.bool false)]/\∀ u,BindsTo s fd ⟨[v,u],[]⟩ [("text",v),("ignore_scope",u)]:=by
 cases fd
 simp only at hp hd
 subst hp;subst hd
 exact⟨BindsTo.of_defaults rfl ho hs rfl rfl,fun u=>BindsTo.of_defaults rfl ho hs rfl rfl⟩
theorem CG {α:Type}:∀ {l:List α},l.length<=2->2<=l.length+1->(∃ a,l=[a])∨∃ a b,l=[a,b]
 | [],_,h=>absurd h (by simp)
 | [a],_,_=>.inl ⟨a,rfl⟩
 | [a,b],_,_=>.inr ⟨a,b,rfl⟩
 | _::_::_::_,h,_=>by simp at h
set_option tactic.hygienic true in
theorem Ih {d:a0}{ds:List V}{J:Ρ} (h2:d.params=2) (h1:d.defaults=[.bool false]) (h:d.start ds=some J):(∃ a,ds=[a]/\J=[some a,some (.bool false)]++List.replicate (d.locals - 2) none)∨∃ a b,ds=[a,b]/\J=[some a,some b]++List.replicate (d.locals - 2) none:=by
 unfold a0.start at h
 rw[h2,h1] at h
 split at h
 ·rename_i q
  rcases CG q.1 q.2 with ⟨a,rfl⟩ | ⟨a,b,rfl⟩
  ·exact .inl ⟨a,rfl,(Option.some.inj h).symm⟩
  ·exact .inr ⟨a,b,rfl,(Option.some.inj h).symm⟩
 ·contradiction
theorem Ii {K:Frag}{fd:FuncData}{d:a0}{p1 p2:Pos}{a1 a2:Option Expr}{oM:List Expr} (hp:fd.params={ posonlyargs:=[],args:=[{ arg:="text",annotation:=a1,pos:=p1 },{ arg:="ignore_scope",annotation:=a2,pos:=p2 }],vararg:=none,kwonlyargs:=[],kw_defaults:=[],kwarg:=none,defaults:=oM })
  (hd:fd.defaults=.ref 107) (h6:j8 K=true) (h2:d.params=2) (h1:d.defaults=[.bool false]):Binds K fd ["text","ignore_scope"] d:=fun s g ds vs J jC gh rp=>by
 refine bW (SN h6) fun o n zz=>aC zz fun e1 e2=>?_
 have B:=L5 (s:=s) hp hd (jC _ _ e1) e2
 rcases Ih h2 h1 gh with ⟨a,rfl,rfl⟩ | ⟨a,b,rfl,rfl⟩
 ·simp only[du,c5] at rp
  refine bW rp fun v r zz=>b6 zz fun aw r0 gS=>?_;clear zz;try clear rp;subst aw;subst gS
  exact⟨[v,.bool false],[a,.bool false],d.locals - 2,(B v).1,rfl,.cons r0 (.cons rfl .nil),rfl⟩
 ·simp only[du,c5] at rp
  obtain⟨v,r,rfl,r0,u,r',rfl,r1,rfl⟩:=rp
  exact⟨[v,u],[a,b],d.locals - 2,(B v).2 u,rfl,.cons r0 (.cons r1 .nil),rfl⟩
noncomputable def PH:Value->Bool
 | .none=>true
 | _=>false
theorem PJ {v:Value} (h:PH v=true):v=.none:=by cases v<;>first | rfl | contradiction
noncomputable def isRef (a:Addr):Value->Bool
 | .ref b=>decide (b=a)
 | _=>false
theorem L6 {a:Addr}{v:Value} (h:isRef a v=true):v=.ref a:=by
 cases v<;>first | (rw[of_decide_eq_true h];done) | contradiction
noncomputable def sM (p:Arguments) (ps:List PySem.Str):Bool:=p.posonlyargs.isEmpty&&p.vararg.isNone&&p.kwonlyargs.isEmpty&&p.kw_defaults.isEmpty&&p.kwarg.isNone&&decide (p.args.map (·.arg)=ps)
theorem DI {p:Arguments}{ps:List PySem.Str} (h:sM p ps=true):∃ args oM,p=⟨[],args,none,[],[],none,oM⟩/\args.map (·.arg)=ps:=by
 obtain⟨a,b,c,d,e,f,g⟩:=p
 unfold sM at h
 simp only[Bool.and_eq_true,List.isEmpty_iff,Option.isNone_iff_eq_none,decide_eq_true_eq] at h
 obtain⟨⟨⟨⟨⟨rfl,rfl⟩,rfl⟩,rfl⟩,rfl⟩,h⟩:=h
 exact⟨b,g,rfl,h⟩
noncomputable def DJ (fd:FuncData) (x:PySem.Str):Bool:=decide (fd.scope.names.filter (fun z=>z.2 == .cell)=[(x,.cell)])
noncomputable def L7 (K:Frag) (f:Fn):Bool:=QO K gl (fa f) (nj f) (XH f) (defs f).body&&sM (eX K (fa f)).params (nj f) &&
 bif YK f then (bif Nat.beq f.ctorIdx 5 then qf K (fa f) (nj f)&&isRef 107 (eX K (fa f)).defaults else PH (eX K (fa f)).defaults&&DJ (eX K (fa f)) ((nj f).headD "")&&CB K (fa f) ((nj f).headD "")&&decide (((nj f).drop 1).all (fun x=>decide ((eX K (fa f)).scope.names.lookup x=some .local))))
 else qf K (fa f) (nj f)&&PH (eX K (fa f)).defaults
noncomputable def SQ (K:Frag) (C:Addr) (m:List Value):Bool:=SM K C&&decide ((CF K C).mro=m)
noncomputable def VS:List Addr:=[49,24,37,61,73]
noncomputable def L8 (K:Frag):Bool:=gl.all (fun z=>PC K fa z.1 z.2)&&SD.all (L7 K)&&VS.all (fun C=>SQ K C (Cg C))&&excIn K 49 [.type "Exception",.type "BaseException",.type "object"] "Exception.__new__"&&j8 K
noncomputable def DK (h:Heap):Frag:=(List.range h.objs.size).filterMap fun a=>(h.get? a).map fun o=>(a,o)
set_option tactic.hygienic true in
theorem PK {h:Heap}{a:Addr}{o:Obj}:∀ {l:List Addr},(l.filterMap fun a=>(h.get? a).map fun o=>(a,o)).lookup a=some o->h.get? a=some o:=by
 intro z0
 induction z0 with
 | nil=>
  intro q
  contradiction
 | cons b l ih=>
  intro q
  rw[List.filterMap_cons] at q
  cases e:h.get? b with
  | none=>rw[e] at q;exact ih q
  | some u=>
   rw[e] at q
   change List.lookup a ((b,u)::_)=some o at q
   rw[List.lookup_cons] at q
   split at q
   ·rename_i z;rw[beq_iff_eq.mp z,e,<- q]
   ·exact ih q
theorem iL {n:Nat}{l:List (PySem.Str × NameKind)}{acc:List (PySem.Str × Addr)}:cellsFrom n ((x,k)::l) acc=(if k == .cell then cellsFrom (n+1) l ((x,n)::acc) else cellsFrom n l acc):=rfl
theorem iM:∀ (l:List (PySem.Str × NameKind)) (n:Addr) (acc:List (PySem.Str × Addr)),cellsFrom n l acc=cellsFrom n (l.filter fun z=>z.2 == .cell) acc
 | [],_,_=>rfl
 | (x,k)::l,n,acc=>by
  cases q:k == NameKind.cell with
  | true=>rw[List.filter_cons_of_pos (by exact q),iL,iL,q];exact iM l _ _
  | false=>rw[List.filter_cons_of_neg (by rw[q];exact Bool.false_ne_true),iL,q];exact iM l _ _
theorem Ij {fd:FuncData}{x:PySem.Str} (h:DJ fd x=true) (b:Addr):(cellsFrom b fd.scope.names []).lookup x=some b:=by
 rw[iM,of_decide_eq_true h]
 show List.lookup x [(x,b)]=some b
 rw[List.lookup_cons,beq_self_eq_true]
def nk (ps:List PySem.Str):Prop:=∀ (fd:FuncData) (args:List Arg) (oM:List Expr) (vs:List Value),fd.params=⟨[],args,none,[],[],none,oM⟩->args.map (·.arg)=ps->fd.defaults=.none->vs.length=ps.length->bindArgs fd ⟨vs,[]⟩=pure (ps.zip vs)
noncomputable def wY (fd:FuncData) (args:List Arg) (oM:List Expr):FuncData:={ fd with params:=⟨[],args,none,[],[],none,oM⟩,defaults:=.none }
theorem wZ {fd:FuncData}{args:List Arg}{oM:List Expr} (hp:fd.params=⟨[],args,none,[],[],none,oM⟩) (hd:fd.defaults=.none):fd=wY fd args oM:=by
 cases fd;cases hp;cases hd;rfl
theorem fK {args:List Arg}{x:PySem.Str}{ps:List PySem.Str} (h:args.map (·.arg)=x::ps):∃ an p t,args=⟨x,an,p⟩::t/\t.map (·.arg)=ps:=by
 cases args with
 | nil=>contradiction
 | cons a t=>cases a;injection h with h zq;subst h zq;exact⟨_,_,_,rfl,rfl⟩
theorem fL {α:Type}{vs:List α}{k:Nat} (h:vs.length=k+1):∃ v t,vs=v::t/\t.length=k:=by
 cases vs with
 | nil=>contradiction
 | cons v t=>exact⟨v,t,rfl,Nat.succ.inj h⟩
theorem ba1 {x:PySem.Str} (h:∀ fd an p oM v,bindArgs (wY fd [⟨x,an,p⟩] oM) ⟨[v],[]⟩=pure [(x,v)]):nk [x]:=fun fd args oM vs hp ha hd hl=>by
 rw[wZ hp hd]
 refine eR (fK ha) fun an p t zz=>aC zz fun aw h1=>?_;clear zz;subst aw
 obtain rfl:=List.map_eq_nil_iff.mp h1
 refine bW (fL hl) fun v l zz=>aC zz fun aw h2=>?_;clear zz;subst aw
 obtain rfl:=List.length_eq_zero_iff.mp h2
 exact h fd an p oM v
theorem ba2 {x y:PySem.Str} (h:∀ fd an p SV p' oM v u,bindArgs (wY fd [⟨x,an,p⟩,⟨y,SV,p'⟩] oM) ⟨[v,u],[]⟩=pure [(x,v),(y,u)]):nk [x,y]:=fun fd args oM vs hp ha hd hl=>by
 rw[wZ hp hd]
 refine eR (fK ha) fun an p t zz=>aC zz fun aw h1=>?_;clear zz;subst aw
 refine eR (fK h1) fun SV p' t zz=>aC zz fun aw h5=>?_;clear zz;subst aw
 obtain rfl:=List.map_eq_nil_iff.mp h5
 refine bW (fL hl) fun v l zz=>aC zz fun aw h2=>?_;clear zz;subst aw
 refine bW (fL h2) fun u l zz=>aC zz fun aw h3=>?_;clear zz;subst aw
 obtain rfl:=List.length_eq_zero_iff.mp h3
 exact h fd an p SV p' oM v u
theorem ba3 {x y z:PySem.Str} (h:∀ fd an p SV p' Ma dj oM v u r,bindArgs (wY fd [⟨x,an,p⟩,⟨y,SV,p'⟩,⟨z,Ma,dj⟩] oM) ⟨[v,u,r],[]⟩=pure [(x,v),(y,u),(z,r)]):nk [x,y,z]:=fun fd args oM vs hp ha hd hl=>by
 rw[wZ hp hd]
 refine eR (fK ha) fun an p t zz=>aC zz fun aw h1=>?_;clear zz;subst aw
 refine eR (fK h1) fun SV p' t zz=>aC zz fun aw h5=>?_;clear zz;subst aw
 refine eR (fK h5) fun Ma dj t zz=>aC zz fun aw h6=>?_;clear zz;subst aw
 obtain rfl:=List.map_eq_nil_iff.mp h6
 refine bW (fL hl) fun v l zz=>aC zz fun aw h2=>?_;clear zz;subst aw
 refine bW (fL h2) fun u l zz=>aC zz fun aw h3=>?_;clear zz;subst aw
 refine bW (fL h3) fun r l zz=>aC zz fun aw h4=>?_;clear zz;subst aw
 obtain rfl:=List.length_eq_zero_iff.mp h4
 exact h fd an p SV p' Ma dj oM v u r
theorem SW (f:Fn) (h:f≠.bN):nk (nj f):=by
 cases f<;>first | exact ba1 (by intros;kernel_rfl) | exact ba2 (by intros;kernel_rfl) | exact ba3 (by intros;kernel_rfl) | exact absurd rfl h
theorem PL (f:Fn):f∈SD:=List.mem_of_getElem? (Fn.Ck f)
structure Wn (K:Frag):Prop where
 gl:gl.all (fun z=>PC K fa z.1 z.2)=true
 fn:∀ f,L7 K f=true
 own:∀ C∈VS,SQ K C (Cg C)=true
 exc:excIn K 49 [.type "Exception",.type "BaseException",.type "object"] "Exception.__new__"=true
 six:j8 K=true
theorem SX {K:Frag} (h:L8 K=true):Wn K:=by
 unfold L8 at h
 simp only[Bool.and_eq_true] at h
 exact⟨h.1.1.1.1,fun f=>List.all_eq_true.mp h.1.1.1.2 f (PL f),List.all_eq_true.mp h.1.1.2,h.1.2,h.2⟩
theorem SY {K:Frag}{base:Heap} (jC:K.In base) (F:Wn K):Wk base:=⟨fun C hC=>by
 have h:=F.own C hC
 unfold SQ at h
 rw[Bool.and_eq_true] at h
 exact L4 jC h.1 (of_decide_eq_true h.2)⟩
theorem Ik {K:Frag} (h6:j8 K=true) (hp:sM (eX K 114).params (nj .bN)=true) (hd:isRef 107 (eX K 114).defaults=true):Binds K (eX K 114) (nj .bN) CP:=by
 refine bW (DI hp) fun args oM zz=>aC zz fun hp ha=>?_
 match args,ha with
 | [⟨_,_,p⟩,⟨_,_,p'⟩],rfl=>exact Ii hp (L6 hd) h6 rfl rfl
def PN (prog:Program) (w:World) (base:Heap) (n:Nat) (f:Fn):Prop:=∀ (A:Around) (X:Addr->Prop) (s:Shared) (ds:List V) (vs:List Value),Cx base A s.heap (n+1)->nu X s.heap->(∀ a,X a->base.get? a=none)->az (seen X s.heap) ds vs->
 kM prog w base dB A X false (PySem.call (.ref (fa f)) vs []) s (ae defs (n+1) f ds)
theorem S0 (f:Fn) (h:f≠.bN):(defs f).params=(nj f).length/\(defs f).defaults=[]:=by cases f<;>first | exact⟨rfl,rfl⟩ | exact absurd rfl h
theorem DL {K:Frag}{f:Fn} (h:f≠.bN) (hp:sM (eX K (fa f)).params (nj f)=true) (hd:PH (eX K (fa f)).defaults=true) (vs:List Value) (hl:vs.length=(nj f).length):bindArgs (eX K (fa f)) ⟨vs,[]⟩=pure ((nj f).zip vs):=by
 refine bW (DI hp) fun args oM zz=>aC zz fun hp ha=>?_
 exact SW f h _ args oM vs hp ha (PJ hd) hl
theorem S1 {prog:Program}{w:World}{base:Heap}{n:Nat}{K:Frag} (F:Wn K) (H:VH prog w base (ae defs n) n K fa gl) (f:Fn):PN prog w base n f:=fun A X s ds vs cx low new rp=>by
 have h:=F.fn f
 unfold L7 at h
 rw[Bool.and_eq_true,Bool.and_eq_true] at h
 obtain⟨⟨hc,hp⟩,h⟩:=h
 obtain⟨body,I,S⟩:=zr H hc
 cases hC:YK f with
 | false=>
  have hf:f≠.bN:=fun e=>by rw[e] at hC;contradiction
  rw[hC,cond_false,Bool.and_eq_true] at h
  obtain⟨l1,l2⟩:=sJ h.1
  obtain⟨d1,d2⟩:=S0 f hf
  exact QD (d:=defs f) H.W I l1 l2 (zm d1 d2 (DL hf hp h.2)) S ds vs cx low new rp
 | true=>
  rw[hC,cond_true] at h
  have hf:f=.bN∨f=.ko∨f=.gH∨f=.law:=by cases f<;>first | (contradiction;done) | exact .inl rfl | exact .inr (.inl rfl) | exact .inr (.inr (.inl rfl)) | exact .inr (.inr (.inr rfl))
  rcases hf with rfl | hf
  ·rw[show Nat.beq Fn.bN.ctorIdx 5=true from rfl,cond_true,Bool.and_eq_true] at h
   obtain⟨l1,l2⟩:=sJ h.1
   exact QD (d:=defs .bN) H.W I l1 l2 (Ik F.six hp h.2) S ds vs cx low new rp
  ·have hn:f≠.bN:=fun e=>by subst e;rcases hf with q | q | q<;>contradiction
   rw[show Nat.beq f.ctorIdx 5=false by rcases hf with rfl | rfl | rfl<;>rfl,cond_false] at h
   simp only[Bool.and_eq_true] at h
   obtain⟨⟨⟨h1,h2⟩,h3⟩,h4⟩:=h
   obtain⟨l1,l2⟩:=Ie h3
   have b:=DL hn hp h1
   have c:=Ij h2
   rcases hf with rfl | rfl | rfl
   ·exact wQ (d:=defs .ko) H.W I l1 (of_decide_eq_true (List.all_eq_true.mp (of_decide_eq_true h4) "family" (by exact .head _))) l2 c rfl rfl (fun x y=>b [x,y] rfl) S ds vs cx low new rp
   ·exact pd (d:=defs .gH) H.W I l1 l2 c rfl rfl (fun x=>b [x] rfl) S ds vs cx low new rp
   ·exact pd (d:=defs .law) H.W I l1 l2 c rfl rfl (fun x=>b [x] rfl) S ds vs cx low new rp
theorem Mb {prog:Program}{w:World}{base:Heap}{K:Frag} (F:Wn K) (jC:K.In base) (top:∃ (p:Program) (loose:List PySem.Str) (mg mb:PySem.Str->Option Value),TopRead p loose mg mb base):∀ n,wo prog w base dB (ae defs n) n fa:=by
 intro z0
 induction z0 with
 | zero=>exact  fun A X s f ds vs cx low new rp=>.stuck
 | succ n ih=>exact  fun A X s f ds vs cx low new rp=>S1 F ⟨⟨jC,top⟩,SY jC F,QP F.gl,ih,F.exc⟩ f A X s ds vs cx low new rp
noncomputable def qg (st:SharedT->Thread->Option (SharedT × Thread)) (ok:Thread->Bool):Nat->SharedT->Thread->Option SharedT
 | 0,_,_=>none
 | n+1,s,t=>match through t with
  | true=>some s
  | false=>match ok t with
   | false=>none
   | true=>match st s t with
    | some (s',t')=>qg st ok n s' t'
    | none=>none
theorem Il {tb:String->Option Builtin}{p:Program}{w:World}{PQ:Nat}{ann:Option Value}:∀ {n:Nat}{s s':SharedT}{t:Thread},qg (stepT (denote tb) p w) (stepOk PQ ann) n s t=some s'->topRun tb p w PQ ann n s.abs t=some s'.abs:=by
 intro z0
 induction z0 with
 | zero=>
  intro _ _ _ h
  contradiction
 | succ n ih=>
  intro s s' t h
  change (match through t with
   | true=>some s
   | false=>match stepOk PQ ann t with
    | false=>none
    | true=>match stepT (denote tb) p w s t with
     | some (s',t')=>qg _ _ n s' t'
     | none=>none)=some s' at h
  unfold topRun
  cases ht:through t with
  | true=>rw[ht] at h;injection h with h;subst h;rfl
  | false=>
   rw[ht] at h
   cases hk:stepOk PQ ann t with
   | false=>rw[hk] at h;contradiction
   | true=>
    rw[hk] at h
    cases hs:stepT (denote tb) p w s t with
    | none=>rw[hs] at h;contradiction
    | some r=>obtain⟨a9,O2⟩:=r;rw[hs] at h;rw[stepT_spec hs];exact ih h
noncomputable def build:List Obj->Nat->BT->Option BT
 | [],_,t=>some t
 | o::r,n,t=>match ((t.ins n o).get n).isSome with
  | true=>build r (n+1) (t.ins n o)
  | false=>none
theorem Md {life:Life}:∀ {l:List Obj}{n:Nat}{t T:BT}{pre:Array Obj},absHeap t n life=⟨pre,life⟩->build l n t=some T->absHeap T (n+l.length) life=⟨pre++l.toArray,life⟩:=by
 intro z0
 induction z0 with
 | nil=>
  intro n t T pre h e
  injection e with e;subst e;rw[List.length_nil,Nat.add_zero,h,Array.append_empty]
 | cons o r ih=>
  intro n t T pre h e
  change (match ((t.ins n o).get n).isSome with
   | true=>build r (n+1) (t.ins n o)
   | false=>none)=some T at e
  cases q:((t.ins n o).get n).isSome with
  | false=>rw[q] at e;contradiction
  | true=>
   rw[q] at e
   have z:=ih (by rw[absHeap_ins q,h];rfl) e
   rw[List.length_cons,show n+(r.length+1)=n+1+r.length by omega,z]
   congr 1
   apply Array.toList_inj.mp
   simp
noncomputable def toT (s:Shared):Option SharedT:=(build s.heap.objs.toList 0 .nil).map fun T=>⟨T,s.heap.objs.toList.length,s.heap.life,s.gens,s.drawn,s.toks,s.os⟩
theorem S2 {s:Shared}{T:SharedT} (h:toT s=some T):T.abs=s:=by
 obtain⟨t,e,rfl⟩:=Option.map_eq_some_iff.mp h
 have z:=Md (life:=s.heap.life) (pre:=#[]) (t:=.nil) rfl e
 rw[Nat.zero_add] at z
 unfold SharedT.abs
 dsimp only
 rw[z]
 obtain⟨⟨o,l⟩,g,d,k,os⟩:=s
 simp
noncomputable def DM (st:SharedT->Thread->Option (SharedT × Thread)) (ok:Nat->Option Value->Thread->Bool) (p:Program) (N:Nat) (s₀:Shared):Option Shared:=
 match s₀.heap.isNs mainGlobals&&s₀.gens.size == 0 with
 | true=>(toT s₀).bind fun S=>(qg st (ok s₀.heap.objs.size (s₀.heap.nsMap mainGlobals "__annotations__")) N S (topStub p)).bind fun Im=>match staticsOk (importedModules p.main.body) s₀.heap Im.abs.heap&&namesBound p Im.abs.heap&&gensDone Im.abs&&laidKept s₀.heap Im.abs.heap with
  | true=>some Im.abs
  | false=>none
 | false=>none
set_option tactic.hygienic true in
theorem PR {p:Program}{w:World}{N:Nat}{s₀ s₁:Shared} (h:DM (stepT (denote treeTable) p w) stepOk p N s₀=some s₁):topFrom treeTable p w N s₀=some s₁:=by
 unfold DM at h
 unfold topFrom
 split at h
 ·rename_i q
  rw[q]
  obtain⟨S,e,h⟩:=Option.bind_eq_some_iff.mp h
  obtain⟨Im,e₁,h⟩:=Option.bind_eq_some_iff.mp h
  have r:=Il e₁
  rw[S2 e] at r
  dsimp only
  rw[r]
  exact h
 ·contradiction
theorem Mf {p q:Program}{loose:List PySem.Str}{Xt:Shared->Bool}{α:Type}{Yf:Shared->α}{Ya:World->α}{N:Nat}{g0:Bool}
  (h:∀ w,((fencedOpening treeTable p w N).bind (DM (stepT (denote treeTable) p w) stepOk p N)).map (fun s=>(openSeen q loose (importedModules p.main.body) Xt g0 s,Yf s))=some (openGood q loose,Ya w)):LeftO p q loose Xt Yf Ya N g0:=fun w=>by
 obtain⟨s,e,e'⟩:=Option.map_eq_some_iff.mp (h w)
 obtain⟨s₀,XI,e₁⟩:=Option.bind_eq_some_iff.mp e
 unfold openEnds
 rw[XI]
 show (topFrom treeTable p w N s₀).map _=_
 rw[PR e₁]
 exact congrArg some e'
noncomputable def pE:Program:=W.view PySem.Challenge.pw_ji0014_01 [60]
noncomputable def CH:List PySem.Str:=(["DNSException","FormError","DnsSyntaxError","UnexpectedEnd","TooBig","inet_ntoa","inet_ntoa_ipv4","inet_aton","inet_aton_ipv4","canonicalize","canonicalize_ipv4","_HEX","inet_ntoa_ipv6","_v4_ending","inet_aton_ipv6","_mapped_prefix","is_mapped","canonicalize_ipv6","AF_INET","AF_INET6"]:List PySem.Str)++(["inet_pton","inet_ntop","af_for_address","is_multicast","is_address","any_for_af","canonicalize_inet","LAW_HEX","LAW_CAPS","LAW_SIGNS","LAW_ROW","_law_at","_law_groups","_law_octets","_law_word","_law_dots","_law_pairs","_law_canon","_law_quad","_law_piece"]:List PySem.Str)++(["_law_side","_law_read","_law_tell","_law_by_family","_law_text","_law_there_and_back","_law_lengths","_law_any","_law_dotted","_law_spelled","_law_free"]:List PySem.Str)
noncomputable def YM (s:Shared):Bool:=xlAt pE [] s&&recOk [] s
open PySem.W.Fast in
theorem Mg:LeftO PySem.Challenge.pw_ji0014_01 pE CH YM (fun s=>L8 (DK s.heap)) (fun O=>true) 4894:=by
 have h:∀ w,(((tw10274390034422433532 tw14364793385576792824 (opening PySem.Challenge.pw_ji0014_01) w 4894 (tw1435165496053646825 (opening PySem.Challenge.pw_ji0014_01)).1 (tw1435165496053646825 (opening PySem.Challenge.pw_ji0014_01)).2).bind (tw14289696077712309145 PySem.Challenge.pw_ji0014_01)).bind (DM (tw10156331382660048174 (tw11892475500146522536 tw14364793385576792824) PySem.Challenge.pw_ji0014_01 w) tw6613529449190102663 PySem.Challenge.pw_ji0014_01 4894)).map (fun s=>(tw4187177175401517315 pE CH (importedModules PySem.Challenge.pw_ji0014_01.main.body) YM true s,L8 (DK s.heap)))=some (openGood pE CH,true):=by
  intro w
  kernel_rfl
 rw[<- te10274390034422433532,<- te14364793385576792824,<- te1435165496053646825,<- te14289696077712309145,<- te10156331382660048174,<- te11892475500146522536,<- te6613529449190102663,<- te4187177175401517315] at h
 exact Mf h
noncomputable abbrev S3:OpenRow:=PySem.Challenge.rw_ji0014_01.row
set_option maxHeartbeats 8000000 in
theorem Mh:PySem.Challenge.rw_ji0014_01.wellSaid=true:=by
 delta OpenLaw.wellSaid OpenRow.wellSaid OpenRow.partSaid looksOpen
 repeat' with_reducible refine look_both ?_ ?_
 all_goals decide +kernel
theorem DN:(defOf pE S3.name).isSome=true:=by kernel_rfl
noncomputable def PT:DefRec × List (PySem.Str × Expr):=(defOf pE S3.name).get DN
theorem PV:defOf pE S3.name=some (PT.1,PT.2):=(Option.some_get DN).symm
theorem Mi {g:Addr->Obj->Prop}{vs:List Value}{xs:List Int} (h:IntsAre vs xs):az g (xs.map V.int) vs:=by
 induction h with
 | nil=>exact .nil
 | cons n t _ ih=>exact .cons (by rw[Kj];exact⟨t,rfl⟩) ih
theorem Io {c:ClaimW}{cl:PySem.Str->Option Addr}{mean:ExcName->Option Value}{args:List WData}{s₁ s':Shared} (hr:∀ k,c.raises args k=false) (hp:c.post args (.bool true) args=true) (k:OldK s₁.heap s'.heap) (ho:s'.os=s₁.os) (hg:AllBare s'.gens):GoodWG c cl mean args s₁ (.ok (.ret (.bool true))) s':=
 ⟨.inl ⟨.bool true,.bool true,[],rfl,hr,.bool true,hp,fun O=>⟨.nil,fun a h=>by cases h⟩⟩,k,ho,hg⟩
set_option tactic.hygienic true in
theorem w5 {N:Nat} (hN:N<=500) (law:∀ xs:List Int,xs.length<=63->ae defs N .law [.list (xs.map V.int)]=.ok (.bool true)):PySem.Challenge.rw_ji0014_01.Holds:=by
 refine holds_law Mh fun said=>CD (d:=PT.1) (kwd:=PT.2) (XP:=XL pE []) (YP:=fun O h=>∃ K:Frag,K.In h/\L8 K=true) Mg (fun w s e=>⟨_,fun a o q=>PK q,e⟩) (fun w h h' ⟨K,a,b⟩ k=>⟨K,a.keeps k,b⟩)
  (fun s e=>xl_of s (Bool.and_eq_true_iff.mp e).1) XL.keeps PV (by kernel_rfl) (by kernel_rfl) (fun s e=>recFacts_of (Bool.and_eq_true_iff.mp e).2) rfl said (by decide +kernel) ⟨rfl,rfl,rfl,rfl,rfl,by decide +kernel⟩ ?_ ?_
 ·w_witness2
 exact (fun w s₀ s₁ mg mb G Y a o pm cd doc dV kV h1 h2 h3 h4 h5 VV args vals as SJ hlay hrd hwl Wc=>by
 obtain⟨K,jC,fit⟩:=Y
 have F:=SX fit
 have top:=topRead_of G.T
 wrow_args SJ hlay hrd hwl Wc
 rename_i xs hs YN hL1 hr1 A0 w4 w3 L items w0 hL ra w1 r0 hI hr hc1 hc2
 have hlen:xs.length<=63:=by
  have:¬ ((63:Nat):Int)<(xs.length:Int):=hc1
  omega
 have e5:mg (Str.ofString "law")=some (.ref 313):=mg_of jC G.T.g (QP F.gl "law" (.fn .law) (by kernel_rfl)).1
 obtain rfl:a=313:=by
  have YQ:mg (Str.ofString "law")=some (.ref a):=h5
  rw[e5] at YQ
  cases YQ;rfl
 have good:∀ (h':Heap) (tk:Nat),Kept s₁.heap s₁.heap h'->GoodWG PySem.Challenge.rw_ji0014_01.row.claim (classAt s₀.heap) (ExcName.means s₀.heap) [ofPy (PyData.list (List.map PyData.int xs))] s₁ (.ok (.ret (.bool true))) { s₁ with heap:=h',toks:=tk }:=fun h' tk k=>
  Io (fun k=>rfl) (postW_of (by wrow_shape) (by wtm_val) (by w_fin)) (.of_keep (k.stays (fun b o q=>q))) rfl (AllBare.of_eq VV)
 refine⟨?_,good s₁.heap s₁.toks (.refl _ _)⟩
 obtain⟨o',lB,NP,n',kF⟩:=hL
 have rp:az (seen (fun O=>False) s₁.heap) [V.list (xs.map V.int)] [.ref L]:=.cons (by
  rw[Bl]
  exact⟨L,o',_,n',rfl,⟨lB,fun q=>q⟩,NP,kF,by simp;omega,by simpa using Mi hI⟩) .nil
 have cx:Cx s₁.heap callerA s₁.heap N:=⟨⟨[],rfl,trivial⟩,fun b o q=>q,.inl rfl,by show 1+claimMargin+N<=900;have:claimMargin=300:=rfl;omega,by show 4+10*N<=9000;omega⟩
 have C:=Mb (prog:=PySem.Challenge.rw_ji0014_01.row.prog) (w:=w) F jC ⟨_,_,_,_,top⟩ N callerA (fun O=>False) s₁ .law _ _ cx (fun O q=>q.elim) (fun O q=>q.elim) rp
 rw[law xs hlen] at C
 refine C _ _ ⟨fun d v h' tk e k rp O=>?_,fun x e h' tk q=>by cases q⟩ (by intro q;cases q)
 cases e
 obtain rfl:=rR rp
 exact good h' tk k)
end Mine.Internal
end
theorem PySem.Challenge.cw_ji0014_01_holds : PySem.Challenge.rw_ji0014_01.Holds :=
  Mine.Internal.w5 (N := 7) (by decide) fun xs O => Mine.Internal.P.Kg 0 xs
