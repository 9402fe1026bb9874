import PyProof.Rows.All
import PyProof.AttrMissHeap
import PyProof.FitsInt
import PyProof.SliceSyntax
import PyProof.SliceList
import PyProof.NeKinds
import PyProof.Rows.FactsExc_KeyError
import KE.KDictOf
import KE.KEqDict
import KE.KIntText
import KE.KOwnIter
import KE.KTab
import Wide.FinOn
import OpenK.AllK
import Wide.All
import Lean
import PySem.Challenge.RW_te0044_02
set_option Elab.async false
set_option linter.all false
set_option autoImplicit false
set_option tactic.hygienic false
set_option maxRecDepth 100000
set_option maxHeartbeats 8000000
set_option genSizeOf false
set_option genInjectivity false
set_option genCtorIdx false
namespace Tk
theorem A0{a b:Bool}(h:(a&&b)=true):a=true∧b=true:=Bool.and_eq_true_iff.mp h
theorem A1{a b:Bool}(h:(a||b)=true):a=true∨b=true:=Bool.or_eq_true_iff.mp h
theorem A2{α:Type _}{as bs:List α}:(as++bs).length=as.length+bs.length:=List.length_append
theorem A3{n m:Nat}(h:Nat.ble n m=true):n≤m:=Nat.le_of_ble_eq_true h
theorem A4{n m:Nat}(h:n≤m):Nat.ble n m=true:=Nat.ble_eq_true_of_le h
theorem A5{n m k:Nat}(h:n≤m)(l:m≤k):n≤k:=Nat.le_trans h l
theorem A6{n m k:Nat}(h:n<m)(l:m≤k):n<k:=Nat.lt_of_lt_of_le h l
theorem A7(n:Nat):n≤n:=Nat.le_refl n
theorem A8:¬false=true:=Bool.false_ne_true
theorem A9{α:Type _}{a b:α}(h:some a=some b):a=b:=Option.some.inj h
theorem B0{n m:Nat}(h:Nat.beq n m=true):n=m:=Nat.eq_of_beq_eq_true h
theorem B1{α:Type _}(as:List α):as++[]=as:=List.append_nil as
theorem B2{α:Type _}(as bs cs:List α):as++bs++cs=as++(bs++cs):=List.append_assoc as bs cs
theorem B3{α:Type _}{a:α}{as:List α}:(a::as).length=as.length+1:=List.length_cons
open PySem PySem.W PyProof.Rows PySem.Calls
section
noncomputable abbrev Nm:=List Nat
noncomputable abbrev aAh:List Nat:=[102,114,111,109,65,116,116,114,105,98,117,116,101]
noncomputable abbrev aAi:List Nat:=[97,108,108,111,119,101,100,67,104,97,114]
noncomputable abbrev aAj:List Nat:=[0,1,2,3,4,5,6,7,8,9,10]
noncomputable abbrev aAk:List Nat:=[95,99,97,99,104,101,112,111,105,110,116,115]
noncomputable abbrev aAl:List Nat:=[114,101,112,111,114,116,67,104,97,114,97,99,116,101,114,69,114,114,111,114,115]
noncomputable abbrev aAm:List Nat:=[48,49,50,51,52,53,54,55,56,57,97,98,99,100,101,102,65,66,67,68,69,70]
noncomputable abbrev aAn:List Nat:=[95,98,117,102,102,101,114,101,100,67,104,97,114,97,99,116,101,114]
noncomputable abbrev aAo:List Nat:=[95,99,97,99,104,101,115,116,114]
noncomputable abbrev aAp:List Nat:=[32,10,34,39,61,60,62]
noncomputable abbrev aAq:List Nat:=[116,111,107,101,110,84,121,112,101,115]
noncomputable abbrev aAr:List Nat:=[95,95,105,110,105,116,95,95]
noncomputable abbrev aAs:List Nat:=[38,35,88,48,48]
noncomputable abbrev aAt:List Nat:=[108,97,115,116,70,111,117,114,67,104,97,114,115]
noncomputable abbrev aAu:List Nat:=[101,110,116,105,116,105,101,115]
noncomputable abbrev aAv:List Nat:=[9,10,12,32,13]
noncomputable abbrev aAw:List Nat:=[112,114,101,118,78,117,109,76,105,110,101,115]
noncomputable abbrev aAx:List Nat:=[99,117,114,114,101,110,116,84,111,107,101,110]
noncomputable abbrev aAy:List Nat:=[115,101,108,102]
noncomputable abbrev aAz:List Nat:=[95,107,101,121,115]
noncomputable abbrev aA0:List Nat:=[32,10,60,38]
noncomputable abbrev aA1:List Nat:=[95,100,97,116,97]
theorem an {a b:Prop}(x:a)(y:b):a∧b:=⟨x,y⟩
noncomputable def st (x:Nm):Str:=⟨x.toArray⟩
theorem mY {x y:Nm}(h:st x=st y):x=y:=congrArg (λs:Str=>s.cps.toList) h
inductive D where
 |non|boo (b:Bool)|int (i:Int)|str (s:List Nat)
 |tup (xs:List D)|lst (xs:List D)|dct (es:List (Nm×D))
inductive V where
 |dat (d:D)|ref (l:Nat)|top (a:Nat)|blt (id:String)|typ (n:String)|rng (a b:Int)|mth (f l:Nat)
set_option genCtorIdx true in
inductive O where
 |gone|lst (xs:List V)|tup (xs:List V)|ns (es:List (Nm×V))|fr (es:List (Nm×V))|cel (v:Option V)
 |ins (c d:Nat)
 |dls (xs:List D)
noncomputable def O.live:O→Bool
 |.gone=>false
 |_=>true
inductive Two {α:Type} (p:α→Prop) (q:List α→Prop):List α→Prop
 |mk {a:α} {l:List α} (h:p a) (r:q l):Two p q (a::l)
noncomputable def R2 {α β:Type}(R:α→β→Prop):List α→List β→Prop
 | [],ys=>ys=[]
 |x::xs,ys=>Two (R x) (R2 R xs) ys
section
variable {α β:Type}{R S:α→β→Prop}
theorem Two.imp {γ:Type}{R S:γ→Prop}{R' S':List γ→Prop}{l:List γ}(h:∀ y,R y→S y)(k:∀ ys,R' ys→S' ys):Two R R' l→Two S S' l
 |.mk a r=>.mk (h _ a) (k _ r)
theorem R2.imp (h:∀ a b,R a b→S a b):∀ {xs:List α} {ys:List β},R2 R xs ys→R2 S xs ys
 | [],_=>id
 |_::_,_=>Two.imp (h _) λ_=>R2.imp h
theorem Two.out {γ:Type}{R:γ→Prop}{R':List γ→Prop}{l:List γ}:Two R R' l→∃ y ys,l=y::ys∧R y∧R' ys
 |.mk a r=>⟨_,_,rfl,a,r⟩
theorem R2.len:∀ {xs:List α} {ys:List β},R2 R xs ys→ys.length=xs.length
 | [],_=>λx=>congrArg List.length (show _=[]from x)
 |_::_,_=>λh=>match Two.out h with|⟨_,_,e,_,r⟩=>e▸congrArg (· +1) (R2.len r)
theorem R2.app:∀ {xs xs':List α} {ys ys':List β},R2 R xs ys→R2 R xs' ys'→R2 R (xs++xs') (ys++ys')
 | [],_,_,_=>λx y=>(show _=[]from x)▸y
 |_::_,_,_,_=>λh y=>match Two.out h with|⟨_,_,e,a,r⟩=>e ▸ .mk a (R2.app r y)
theorem R2.drop:∀ (n:Nat) {xs:List α} {ys:List β},R2 R xs ys→R2 R (xs.drop n) (ys.drop n)
 |0,_,_=>id
 |_+1,[],_=>λh=>(show _=[]from h)▸rfl
 |n+1,_::_,_=>λh=>match Two.out h with|⟨_,_,e,_,r⟩=>e▸R2.drop n r
theorem R2.take:∀ (n:Nat) {xs:List α} {ys:List β},R2 R xs ys→R2 R (xs.take n) (ys.take n)
 |0,_,_=>λ_=>rfl
 |_+1,[],_=>λh=>(show _=[]from h)▸rfl
 |n+1,_::_,_=>λh=>match Two.out h with|⟨_,_,e,a,r⟩=>e ▸ .mk a (R2.take n r)
theorem R2.at:∀ {xs:List α} {ys:List β} {i:Nat} {x:α},R2 R xs ys→xs[i]? =some x→∃ y,ys[i]? =some y∧R x y
 | [],_,_,_=>λ_ e=>nomatch e
 |_::_,_,i,_=>λh=>match Two.out h with
  |⟨y,_,e,a,r⟩=>match i with
   |0=>λe'=>⟨y,e▸rfl,A9 e'▸a⟩
   |i+1=>λe'=>e▸R2.at (i:=i) r e'
theorem R2.set:∀ {xs:List α} {ys:List β} {i:Nat} {x:α} {y:β},R2 R xs ys→R x y→R2 R (xs.set i x) (ys.set i y)
 | [],_,_,_,_=>λh _=>(show _=[]from h)▸rfl
 |_::_,_,i,_,_=>λh=>match Two.out h with
  |⟨_,_,e,a,r⟩=>match i with
   |0=>λh=>e ▸ .mk h r
   |_+1=>λh=>e ▸ .mk a (R2.set r h)
theorem R2.one {x:α}{y:β}(h:R x y):R2 R [x] [y]:=.mk h rfl
theorem R2.map {γ:Type}{f:γ→α}:∀ {xs:List γ} {ys:List β},R2 (λx=>R (f x)) xs ys→R2 R (xs.map f) ys
 | [],_=>id
 |_::_,_=>Two.imp (λ_=>id) λ_=>R2.map
end
structure Wd where
 n:Nat
 ρ:Nat→Addr
 fz:Addr→Option Obj
structure Wd.le (W W':Wd):Prop where
 n:W.n≤W'.n
 ρ:∀ l,l<W.n→W'.ρ l=W.ρ l
 fz:∀ a o,W.fz a=some o→W'.fz a=some o
theorem Wd.le.refl (W:Wd):W.le W:=⟨A7 _,λ_ _=>rfl,λ_ _ h=>h⟩
theorem Wd.le.trans {W W' W'':Wd}(x:W.le W')(y:W'.le W''):W.le W'':=⟨A5 x.n y.n,λl h=>(y.ρ l (A6 h x.n)).trans (x.ρ l h),λa o e=>y.fz a o (x.fz a o e)⟩
inductive IsI (i:Int):Value→Prop|mk (t:Tok):IsI i (.int i t)
inductive IsS (x:Nm):Value→Prop|mk (t:Tok):IsS x (.str (st x) t)
inductive IsSeq (fz:Addr→Option Obj) (c:String) (R:List Value→Prop):Value→Prop
 |mk (a:Addr) (vs:List Value) (n:Nat) (f:fz a=some ⟨.type c,none,.seq vs.toArray n,#[]⟩) (d:R vs):IsSeq fz c R (.ref a)
inductive IsDct (fz:Addr→Option Obj) (R:List DictEntry→Prop):Value→Prop
 |mk (a:Addr) (en:List DictEntry) (n:Nat) (f:fz a=some ⟨.type "dict",none,.dict en.toArray n,#[]⟩) (d:R en):IsDct fz R (.ref a)
inductive Ent (P:Params) (x:Nm) (R:Value→Prop):DictEntry→Prop
 |mk (e:DictEntry) (t:Tok) (h:e.hash=PyData.keyHash P (st x)) (k:e.key=.str (st x) t) (r:R e.val):Ent P x R e
theorem Ent.imp {P:Params}{x:Nm}{R S:Value→Prop}{e:DictEntry}(h:∀ v,R v→S v):Ent P x R e→Ent P x S e
 |.mk _ t a k r=>.mk _ t a k (h _ r)
mutual
noncomputable def DR (P:Params)(fz:Addr→Option Obj):D→Value→Prop
 |.non,v=>v=.none
 |.boo b,v=>v=.bool b
 |.int i,v=>IsI i v
 |.str x,v=>IsS x v
 |.tup ds,v=>IsSeq fz "tuple" (DRs P fz ds) v
 |.lst ds,v=>IsSeq fz "list" (DRs P fz ds) v
 |.dct es,v=>IsDct fz (DRe P fz es) v
noncomputable def DRs (P:Params)(fz:Addr→Option Obj):List D→List Value→Prop
 | [],vs=>vs=[]
 |d::ds,vs=>Two (DR P fz d) (DRs P fz ds) vs
noncomputable def DRe (P:Params)(fz:Addr→Option Obj):List (Nm×D)→List DictEntry→Prop
 | [],en=>en=[]
 |(x,d)::es,en=>Two (Ent P x (DR P fz d)) (DRe P fz es) en
end
noncomputable abbrev EV (P:Params)(R:V→Value→Prop)(p:Nm×V)(e:DictEntry):Prop:=Ent P p.1 (R p.2) e
theorem DRs.r2 {P:Params}{fz:Addr→Option Obj}:∀ {ds:List D} {vs:List Value},DRs P fz ds vs↔R2 (DR P fz) ds vs
 | [],_=>.rfl
 |_::_,_=>⟨Two.imp (λ_=>id) λ_=>DRs.r2.mp,Two.imp (λ_=>id) λ_=>DRs.r2.mpr⟩
variable (P:Params)
inductive IsM (W:Wd) (f l:Nat):Value→Prop
 |mk (a:Addr) (h:l<W.n) (z:W.fz a=some (methodObj (.ref f) (.ref (W.ρ l)))):IsM W f l (.ref a)
inductive IsR (fz:Addr→Option Obj) (x y:Int):Value→Prop
 |mk (a:Addr) (t t' t'':Tok) (z:fz a=some ⟨.type "range",none,.fields #[.int x t,.int y t',.int 1 t''],#[]⟩):IsR fz x y (.ref a)
noncomputable def VR (W:Wd):V→Value→Prop
 |.dat d,v=>DR P W.fz d v
 |.ref l,v=>l<W.n∧v=.ref (W.ρ l)
 |.top a,v=>v=.ref a
 |.blt i,v=>v=.builtin i
 |.typ n,v=>v=.type n
 |.rng x y,v=>IsR W.fz x y v
 |.mth f l,v=>IsM W f l v
noncomputable abbrev VRs (W:Wd):List V→List Value→Prop:=R2 (VR P W)
noncomputable abbrev ER (W:Wd):List (Nm×V)→List DictEntry→Prop:=R2 (EV P (VR P W))
inductive OSeq (c:String) (R:List Value→Prop):Obj→Prop
 |mk (vs:List Value) (n:Nat) (d:R vs):OSeq c R ⟨.type c,none,.seq vs.toArray n,#[]⟩
inductive ONs (R:List DictEntry→Prop):Obj→Prop
 |mk (en:List DictEntry) (n:Nat) (d:R en):ONs R ⟨.type "dict",none,.dict en.toArray n,#[]⟩
inductive OFr (R:List DictEntry→Prop):Obj→Prop
 |mk {sl:Array (Option Value)} (c:String) (en:List DictEntry) (n:Nat) (d:R en):OFr R ⟨.type c,none,.dict en.toArray n,sl⟩
inductive OCel (R:Option Value→Prop):Obj→Prop
 |mk (r:Option Value) (d:R r):OCel R ⟨.type "cell",none,.cell r,#[]⟩
inductive OIns (W:Wd) (c d:Nat):Obj→Prop
 |mk (h:d<W.n):OIns W c d ⟨.ref c,some (W.ρ d),.plain,#[]⟩
noncomputable def CR (R:V→Value→Prop):Option V→Option Value→Prop
 |none,none=>True
 |some x,some y=>R x y
 |_,_=>False
noncomputable def OR (W:Wd):O→Obj→Prop
 |.gone,_=>False
 |.lst xs,o=>OSeq "list" (VRs P W xs) o
 |.tup xs,o=>OSeq "tuple" (VRs P W xs) o
 |.ns es,o=>(es.map (·.1)).Nodup∧ONs (ER P W es) o
 |.fr es,o=>OFr (ER P W es) o
 |.cel v,o=>OCel (CR (VR P W) v) o
 |.ins c d,o=>OIns W c d o
 |.dls xs,o=>OSeq "list" (DRs P W.fz xs) o
variable {P}
theorem IsSeq.imp {fz fz':Addr→Option Obj}{c:String}{R S:List Value→Prop}{v:Value}(h:∀ a o,fz a=some o→fz' a=some o)(k:∀ vs,R vs→S vs):IsSeq fz c R v→IsSeq fz' c S v
 |.mk a vs n f d=>.mk a vs n (h _ _ f) (k _ d)
theorem IsDct.imp {fz fz':Addr→Option Obj}{R S:List DictEntry→Prop}{v:Value}(h:∀ a o,fz a=some o→fz' a=some o)(k:∀ vs,R vs→S vs):IsDct fz R v→IsDct fz' S v
 |.mk a vs n f d=>.mk a vs n (h _ _ f) (k _ d)
mutual
theorem DR.mono {fz fz':Addr→Option Obj}(h:∀ a o,fz a=some o→fz' a=some o):∀ {d:D} {v:Value},DR P fz d v→DR P fz' d v
 |.non,_=>id
 |.boo _,_=>id
 |.int _,_=>id
 |.str _,_=>id
 |.tup _,_=>IsSeq.imp h λ_=>DRs.mono h
 |.lst _,_=>IsSeq.imp h λ_=>DRs.mono h
 |.dct _,_=>IsDct.imp h λ_=>DRe.mono h
theorem DRs.mono {fz fz':Addr→Option Obj}(h:∀ a o,fz a=some o→fz' a=some o):∀ {d:List D} {v:List Value},DRs P fz d v→DRs P fz' d v
 | [],_=>id
 |_::_,_=>Two.imp (λ_=>DR.mono h) λ_=>DRs.mono h
theorem DRe.mono {fz fz':Addr→Option Obj}(h:∀ a o,fz a=some o→fz' a=some o):∀ {d:List (Nm×D)} {v:List DictEntry},DRe P fz d v→DRe P fz' d v
 | [],_=>id
 |(_,_)::_,_=>Two.imp (λ_=>Ent.imp λ_=>DR.mono h) λ_=>DRe.mono h
end
noncomputable def V.mp (r:Nat→V)(k:Nat→Nat):V→V
 |.ref l=>r l
 |.mth f l=>.mth f (k l)
 |v=>v
noncomputable def XB (r:Nat→V)(k:Nat→Nat):List (Nm×V)→List (Nm×V):=List.map λx=>(x.1,x.2.mp r k)
noncomputable def O.mp (r:Nat→V)(k:Nat→Nat):O→O
 |.lst xs=>.lst (xs.map (V.mp r k))
 |.tup xs=>.tup (xs.map (V.mp r k))
 |.ns es=>.ns (XB r k es)
 |.fr es=>.fr (XB r k es)
 |.cel none=>.cel none
 |.cel (some v)=>.cel (some (v.mp r k))
 |.ins c d=>.ins c (k d)
 |.dls xs=>.dls xs
 |.gone=>.gone
structure Mv (P:Params) (W W':Wd) (r:Nat→V) (k:Nat→Nat) (ok:Nat→Bool):Prop where
 r:∀ l,ok l=true→l<W.n→VR P W' (r l) (.ref (W.ρ l))
 lt:∀ l,ok l=true→l<W.n→k l<W'.n
 ρ:∀ l,ok l=true→l<W.n→W'.ρ (k l)=W.ρ l
 fz:∀ a o,W.fz a=some o→W'.fz a=some o
noncomputable abbrev V.ren (k:Nat→Nat):V→V:=V.mp (λl=>.ref (k l)) k
noncomputable abbrev O.ren (k:Nat→Nat):O→O:=O.mp (λl=>.ref (k l)) k
theorem Mv.ren {P:Params}{W W':Wd}{k:Nat→Nat}{ok:Nat→Bool}(lt:∀ l,ok l=true→l<W.n→k l<W'.n)(ρ:∀ l,ok l=true→l<W.n→W'.ρ (k l)=W.ρ l)(fz:∀ a o,W.fz a=some o→W'.fz a=some o):Mv P W W' (λl=>.ref (k l)) k ok:=
 ⟨λl c q=>⟨lt l c q,congrArg Value.ref (ρ l c q).symm⟩,lt,ρ,fz⟩
theorem Wd.le.mv {P:Params}{W W':Wd}(h:W.le W'):Mv P W W' .ref id λ_=>true:=.ren (λ_ _ q=>A6 q h.n) (λl _ q=>h.ρ l q) h.fz
noncomputable def V.cl (ok:Nat→Bool):V→Bool
 |.ref l=>ok l
 |.mth _ l=>ok l
 |_=>true
noncomputable def O.cl (ok:Nat→Bool):O→Bool
 |.lst xs=>xs.all (V.cl ok)
 |.tup xs=>xs.all (V.cl ok)
 |.ns es=>es.all λx=>x.2.cl ok
 |.fr es=>es.all λx=>x.2.cl ok
 |.cel (some v)=>v.cl ok
 |.cel none=>true
 |.ins _ d=>ok d
 |.dls _=>true
 |.gone=>true
theorem IsR.imp {fz fz':Addr→Option Obj}{x y:Int}{v:Value}(h:∀ a o,fz a=some o→fz' a=some o):IsR fz x y v→IsR fz' x y v
 |.mk a t t' t'' z=>.mk a t t' t'' (h _ _ z)
theorem IsM.imp {W W':Wd}{f l l':Nat}{v:Value}(h:∀ a o,W.fz a=some o→W'.fz a=some o)(lt:l<W.n→l'<W'.n)(ρ:l<W.n→W'.ρ l'=W.ρ l):IsM W f l v→IsM W' f l' v
 |.mk a q z=>.mk a (lt q) (by rw[ρ q];exact h _ _ z)
theorem OSeq.imp {c:String}{R S:List Value→Prop}{o:Obj}(k:∀ vs,R vs→S vs):OSeq c R o→OSeq c S o
 |.mk vs n d=>.mk vs n (k _ d)
theorem ONs.imp {R S:List DictEntry→Prop}{o:Obj}(k:∀ vs,R vs→S vs):ONs R o→ONs S o
 |.mk vs n d=>.mk vs n (k _ d)
theorem OFr.imp {R S:List DictEntry→Prop}{o:Obj}(k:∀ vs,R vs→S vs):OFr R o→OFr S o
 |.mk c vs n d=>.mk c vs n (k _ d)
theorem OCel.imp {R S:Option Value→Prop}{o:Obj}(k:∀ r,R r→S r):OCel R o→OCel S o
 |.mk r d=>.mk r (k _ d)
theorem OIns.imp {W W':Wd}{c l l':Nat}{o:Obj}(lt:l<W.n→l'<W'.n)(ρ:l<W.n→W'.ρ l'=W.ρ l):OIns W c l o→OIns W' c l' o
 |.mk h=>(ρ h)▸OIns.mk (lt h)
theorem CR.nn {R S:V→Value→Prop}{r:Option Value}:CR R none r→CR S none r:=match r with
 |none=>id
 |some _=>False.elim
theorem CR.ss {R S:V→Value→Prop}{x x':V}{r:Option Value}(k:∀ y,R x y→S x' y):CR R (some x) r→CR S (some x') r:=match r with
 |none=>False.elim
 |some y=>k y
section
variable {W W':Wd}{r:Nat→V}{k:Nat→Nat}{ok:Nat→Bool}(M:Mv P W W' r k ok)
include M
theorem VR.go {v:V}{u:Value}:v.cl ok=true→VR P W v u→VR P W' (v.mp r k) u:=match v with
 |.dat _=>λ_=>DR.mono M.fz
 |.ref _=>λc x=>x.2▸M.r _ c x.1
 |.top _=>λ_=>id
 |.blt _=>λ_=>id
 |.typ _=>λ_=>id
 |.rng _ _=>λ_=>IsR.imp M.fz
 |.mth _ _=>λc=>IsM.imp M.fz (M.lt _ c) (M.ρ _ c)
theorem VRs.go:∀ {v:List V} {u:List Value},v.all (V.cl ok)=true→VRs P W v u→VRs P W' (v.map (V.mp r k)) u
 | [],_=>λ_=>id
 |_::_,_=>λc=>have c:=A0 c;Two.imp (λ_=>VR.go M c.1) λ_=>VRs.go c.2
theorem ER.go:∀ {v:List (Nm×V)} {u:List DictEntry},(v.all λx=>x.2.cl ok)=true→ER P W v u→ER P W' (XB r k v) u
 | [],_=>λ_=>id
 |_::_,_=>λc=>have c:=A0 c;Two.imp (λ_=>Ent.imp λ_=>VR.go M c.1) λ_=>ER.go c.2
theorem OCel.go {ob:Obj}{v:Option V}:(O.cel v).cl ok=true→OCel (CR (VR P W) v) ob→OR P W' ((O.cel v).mp r k) ob:=match v with
 |none=>λ_=>OCel.imp λ_=>CR.nn
 |some _=>λc=>OCel.imp λ_=>CR.ss λ_=>VR.go M c
theorem OR.go {o:O}{ob:Obj}:o.cl ok=true→OR P W o ob→OR P W' (o.mp r k) ob:=match o with
 |.gone=>λ_=>id
 |.lst _=>λc=>OSeq.imp λ_=>VRs.go M c
 |.tup _=>λc=>OSeq.imp λ_=>VRs.go M c
 |.ns es=>λc x=>⟨(List.map_map (l:=es)▸x.1:_),x.2.imp λ_=>ER.go M c⟩
 |.fr _=>λc=>OFr.imp λ_=>ER.go M c
 |.cel _=>OCel.go M
 |.ins _ _=>λc=>OIns.imp (M.lt _ c) (M.ρ _ c)
 |.dls _=>λ_=>OSeq.imp λ_=>DRs.mono M.fz
end
theorem V.ren_id:∀ v:V,v.mp .ref id=v
 |.dat _|.ref _|.top _|.blt _|.typ _|.rng _ _|.mth _ _=>rfl
theorem V.cl_all:∀ v:V,v.cl (λ_=>true)=true
 |.dat _|.ref _|.top _|.blt _|.typ _|.rng _ _|.mth _ _=>rfl
theorem VR.mono {W W':Wd}(h:W.le W'){x:V}{v:Value}(q:VR P W x v):VR P W' x v:=V.ren_id x▸VR.go h.mv (V.cl_all x) q
theorem VRs.mono {W W':Wd}(h:W.le W'){x:List V}{v:List Value}:VRs P W x v→VRs P W' x v:=R2.imp λ_ _=>VR.mono h
theorem ER.mono {W W':Wd}(h:W.le W'){x:List (Nm×V)}{v:List DictEntry}:ER P W x v→ER P W' x v:=R2.imp λ_ _=>Ent.imp λ_=>VR.mono h
theorem OR.mono {W W':Wd}(h:W.le W'){o:O}{ob:Obj}:OR P W o ob→OR P W' o ob:=match o with
 |.gone=>id
 |.lst _=>OSeq.imp λ_=>VRs.mono h
 |.tup _=>OSeq.imp λ_=>VRs.mono h
 |.ns _=>λx=>⟨x.1,x.2.imp λ_=>ER.mono h⟩
 |.fr _=>OFr.imp λ_=>ER.mono h
 |.cel v=>OCel.imp λ_=>match v with
  |none=>CR.nn
  |some _=>CR.ss λ_=>VR.mono h
 |.ins _ _=>OIns.imp (λq=>A6 q h.n) (h.ρ _)
 |.dls _=>OSeq.imp λ_=>DRs.mono h.fz
theorem OSeq.free {c:String}{R:List Value→Prop}{o:Obj}:OSeq c R o→o.isFreed=false
 |.mk .. =>rfl
theorem ONs.free {R:List DictEntry→Prop}{o:Obj}:ONs R o→o.isFreed=false
 |.mk .. =>rfl
theorem OFr.free {R:List DictEntry→Prop}{o:Obj}:OFr R o→o.isFreed=false
 |.mk .. =>rfl
theorem OCel.free {R:Option Value→Prop}{o:Obj}:OCel R o→o.isFreed=false
 |.mk .. =>rfl
theorem OIns.free {W:Wd}{c d:Nat}{o:Obj}:OIns W c d o→o.isFreed=false
 |.mk _=>rfl
theorem OR.free {W:Wd}{x:O}{o:Obj}:OR P W x o→o.isFreed=false:=match x with
 |.gone=>False.elim
 |.lst _=>OSeq.free
 |.tup _=>OSeq.free
 |.ns _=>λh=>h.2.free
 |.fr _=>OFr.free
 |.cel _=>OCel.free
 |.ins .. =>OIns.free
 |.dls _=>OSeq.free
end
section
theorem jK {α:Type}{x:Option α}{o:α}(e:x=some o)(n:x=none):False:=nomatch e.symm.trans n
structure Lv (hp:List O) (l:Nat) (o:O):Prop where
 e:hp[l]? =some o
 v:o.live=true
theorem Lv.lt {hp:List O}{l:Nat}{o:O}(x:Lv hp l o):l<hp.length:=(List.getElem?_eq_some_iff.mp x.e).1
inductive Got (h:Heap) (a:Addr) (R:Obj→Prop):Prop
 |mk (ob:Obj) (g:h.get? a=some ob) (r:R ob)
theorem Got.imp {h h':Heap}{a:Addr}{R S:Obj→Prop}(x:Got h a R)(f:∀ o,h.get? a=some o→h'.get? a=some o)(k:∀ o,R o→S o):Got h' a S:=(by rcases x with⟨ob,g,r⟩;exact .mk ob (f _ g) (k _ r))
inductive GSeq (h:Heap) (a:Addr) (c:String) (R:List Value→Prop):Prop
 |mk (vs:List Value) (n:Nat) (g:h.get? a=some ⟨.type c,none,.seq vs.toArray n,#[]⟩) (d:R vs)
inductive GFr (h:Heap) (a:Addr) (R:List DictEntry→Prop):Prop
 |mk {sl:Array (Option Value)} (c:String) (en:List DictEntry) (n:Nat) (g:h.get? a=some ⟨.type c,none,.dict en.toArray n,sl⟩) (d:R en)
noncomputable def frm (o:Obj):Bool:=match o.data with
 |.dict .. =>match o.cls with
  |.type n=>decide (n="frame")
  |_=>false
 |_=>false
noncomputable def sL:Nat:=237
noncomputable def iQ (a:Addr)(o:Obj):Bool:= !(Nat.beq a sL)&&frm o
theorem kP {a:Addr}{o:Obj}(h:frm o=false):iQ a o=false:=by unfold iQ;rw[h,Bool.and_false]
theorem jL {a:Addr}{o:Obj}(h:iQ a o=true):frm o=true:=(A0 h).2
theorem NE {a:Addr}{o o':Obj}(f:frm o=true→frm o'=true)(h:iQ a o=true):iQ a o'=true:=Bool.and_eq_true_iff.mpr ⟨(A0 h).1,f (jL h)⟩
inductive Upto (a:Addr) (o:Obj):Obj→Prop
 |id:Upto a o o
 |sl (f:iQ a o=true) (s:Array (Option Value)):Upto a o {o with slots:=s}
theorem Upto.frm {x:Addr}{o o':Obj}:Upto x o o'→Tk.frm o'=Tk.frm o
 |.id=>rfl
 |.sl _ _=>rfl
theorem Upto.trans {x:Addr}{a b c:Obj}:Upto x a b→Upto x b c→Upto x a c
 |.id,y=>y
 |.sl f s,y=>match c,y with
  |_,.id=>.sl f s
  |_,.sl _ s'=>.sl f s'
theorem Upto.eq {x:Addr}{o o':Obj}(n:iQ x o=false):Upto x o o'→o'=o
 |.id=>rfl
 |.sl f _=>nomatch n.symm.trans f
inductive Up (h:Heap) (a:Addr) (o:Obj):Prop
 |mk (o':Obj) (g:h.get? a=some o') (u:Upto a o o')
theorem Up.here {h:Heap}{a:Addr}{o:Obj}(g:h.get? a=some o):Up h a o:=.mk o g .id
theorem Up.eqm {h:Heap}{a:Addr}{o:Obj}(n:iQ a o=false):Up h a o→h.get? a=some o
 |.mk _ g u=>g.trans (congrArg some (u.eq n))
theorem Up.eq {h:Heap}{a:Addr}{o:Obj}(n:frm o=false)(u:Up h a o):h.get? a=some o:=u.eqm (kP n)
inductive Still (h:Heap) (a:Addr) (o:Obj):Prop
 |mk (o':Obj) (g:h.get? a=some o') (f:frm o=true→frm o'=true)
theorem Still.here {h:Heap}{a:Addr}{o:Obj}(g:h.get? a=some o):Still h a o:=.mk o g id
inductive GNs (h:Heap) (a:Addr) (R:List DictEntry→Prop) (p:Prop):Prop
 |mk (en:List DictEntry) (n:Nat) (g:h.get? a=some ⟨.type "dict",none,.dict en.toArray n,#[]⟩) (d:R en) (nd:p)
inductive GCel (h:Heap) (a:Addr) (R:Option Value→Prop):Prop
 |mk (r:Option Value) (g:h.get? a=some ⟨.type "cell",none,.cell r,#[]⟩) (d:R r)
structure Rel (P:Params) (W:Wd) (hp:List O) (h:Heap):Prop where
 len:W.n=hp.length
 obj:∀ l o,Lv hp l o→Got h (W.ρ l) (OR P W o)
 cold:∀ l o,Lv hp l o→W.fz (W.ρ l)=none
 inj:∀ l l' o o',Lv hp l o→Lv hp l' o'→W.ρ l=W.ρ l'→l=l'
 fz:∀ a o,W.fz a=some o→h.get? a=some o
 nf:∀ a o,W.fz a=some o→iQ a o=false
inductive Live (W:Wd) (hp:List O) (a:Addr):Prop
 |mk (l:Nat) (o:O) (v:Lv hp l o) (e:W.ρ l=a)
structure Ex (W:Wd) (hp:List O) (W':Wd) (hp':List O) (h':Heap) (a:Addr) (o:Obj):Prop where
 keep:¬ Live W hp a→Up h' a o
 live:Live W' hp' a→Live W hp a
 ex:Still h' a o
 cool:∀ o',W'.fz a=some o'→W.fz a=some o'∨Live W hp a
structure Ext (W:Wd) (hp:List O) (h:Heap) (W':Wd) (hp':List O) (h':Heap):Prop where
 le:W.le W'
 at_:∀ a o,h.get? a=some o→Ex W hp W' hp' h' a o
section
variable {P:Params}{W W' W'':Wd}{hp hp' hp'':List O}{h h' h'':Heap}
theorem Ext.refl (W:Wd)(hp:List O)(h:Heap):Ext W hp h W hp h:=⟨.refl W,λ_ _ e=>⟨λ_=>.here e,id,.here e,λ_=>.inl⟩⟩
theorem Ext.trans (x:Ext W hp h W' hp' h')(y:Ext W' hp' h' W'' hp'' h''):Ext W hp h W'' hp'' h'':=
 ⟨x.le.trans y.le,λa o e=>let X:=x.at_ a o e;match X.ex with
  |.mk o1 e1 f1=>let Y:=y.at_ a o1 e1
   ⟨λn=>(by rcases X.keep n with⟨o2,e2,u2⟩;exact(by rcases(y.at_ a o2 e2).keep λl=>n (X.live l)with⟨o3,e3,u3⟩;exact .mk o3 e3 (u2.trans u3))),λl=>X.live (Y.live l),(by rcases Y.ex with⟨o3,e3,f3⟩;exact .mk o3 e3 λq=>f3 (f1 q)),λo' f=>(Y.cool o' f).elim (X.cool o') λl=>.inr (X.live l)⟩⟩
theorem Rel.lt (R:Rel P W hp h){l:Nat}{o:O}(x:Lv hp l o):l<W.n:=R.len▸x.lt
theorem Rel.lst (R:Rel P W hp h){l:Nat}{xs:List V}(v:Lv hp l (.lst xs)):GSeq h (W.ρ l) "list" (VRs P W xs):=(by rcases R.obj _ _ v with⟨ob,g,r⟩;exact(by rcases(r:OSeq "list" (VRs P W xs) ob)with⟨vs,n,d⟩;exact .mk vs n g d))
theorem Rel.dls (R:Rel P W hp h){l:Nat}{xs:List D}(v:Lv hp l (.dls xs)):GSeq h (W.ρ l) "list" (DRs P W.fz xs):=(by rcases R.obj _ _ v with⟨ob,g,r⟩;exact(by rcases(r:OSeq "list" (DRs P W.fz xs) ob)with⟨vs,n,d⟩;exact .mk vs n g d))
theorem Rel.tup (R:Rel P W hp h){l:Nat}{xs:List V}(v:Lv hp l (.tup xs)):GSeq h (W.ρ l) "tuple" (VRs P W xs):=(by rcases R.obj _ _ v with⟨ob,g,r⟩;exact(by rcases(r:OSeq "tuple" (VRs P W xs) ob)with⟨vs,n,d⟩;exact .mk vs n g d))
theorem Rel.fr (R:Rel P W hp h){l:Nat}{es:List (Nm×V)}(v:Lv hp l (.fr es)):GFr h (W.ρ l) (ER P W es):=(by rcases R.obj _ _ v with⟨ob,g,r⟩;exact(by rcases(r:OFr (ER P W es) ob)with⟨c,en,n,d⟩;exact .mk c en n g d))
theorem Rel.ns (R:Rel P W hp h){l:Nat}{es:List (Nm×V)}(v:Lv hp l (.ns es)):GNs h (W.ρ l) (ER P W es) (es.map (·.1)).Nodup:=(by rcases R.obj _ _ v with⟨ob,g,r⟩;exact(by rcases(r.2:ONs (ER P W es) ob)with⟨en,n,d⟩;exact .mk en n g d r.1))
theorem Rel.cel (R:Rel P W hp h){l:Nat}{x:Option V}(v:Lv hp l (.cel x)):GCel h (W.ρ l) (CR (VR P W) x):=(by rcases R.obj _ _ v with⟨ob,g,r⟩;exact(by rcases(r:OCel (CR (VR P W) x) ob)with⟨r,d⟩;exact .mk r g d))
theorem Rel.ins (R:Rel P W hp h){l c d:Nat}(v:Lv hp l (.ins c d)):h.get? (W.ρ l)=some ⟨.ref c,some (W.ρ d),.plain,#[]⟩∧d<W.n:=(by rcases R.obj _ _ v with⟨ob,g,r⟩;exact(by rcases(r:OIns W c d ob)with⟨q⟩;exact⟨g,q⟩))
inductive From (P:Params) (W:Wd) (hp:List O) (h':Heap) (W':Wd) (k l:Nat) (o':O):Prop
 |mk (o:O) (v:Lv hp k o) (e:W'.ρ l=W.ρ k) (g:Got h' (W.ρ k) (OR P W' o')) (z:W'.fz (W.ρ k)=none)
theorem Rel.via (R:Rel P W hp h){k:Nat→Nat}(len:W'.n=hp'.length)(fz:∀ a o,W'.fz a=some o→h'.get? a=some o)(nf:∀ a o,W'.fz a=some o→iQ a o=false)(pk:∀ l o',Lv hp' l o'→From P W hp h' W' (k l) l o')(ki:∀ l l',l<W'.n→l'<W'.n→k l=k l'→l=l'):Rel P W' hp' h':=
 ⟨len,λl o v=>(by rcases pk l o v with⟨_,_,e,g,_⟩;exact e▸g),λl o v=>(by rcases pk l o v with⟨_,_,e,_,z⟩;exact e▸z),
  λl l' o o' v v' e=>match pk l o v,pk l' o' v' with|.mk a va ea _ _,.mk b vb eb _ _=>ki l l' (len▸v.lt) (len▸v'.lt) (R.inj _ _ a b va vb (ea.symm.trans (e.trans eb))),fz,nf⟩
theorem From.live {k:Nat→Nat}(pk:∀ l o',Lv hp' l o'→From P W hp h' W' (k l) l o'){a:Addr}(x:Live W' hp' a):Live W hp a:=(by rcases x with⟨l,o,v,e⟩;exact(by rcases pk l o v with⟨o',v',e',_,_⟩;exact .mk _ o' v' (e'.symm.trans e)))
theorem Lv.set {l k:Nat}{o' o1:O}(x:Lv (hp.set l o') k o1):(k=l∧o1=o')∨(k≠l∧Lv hp k o1):=by
 by_cases q:k=l
 ·subst q;exact .inl ⟨rfl,A9 (x.e.symm.trans (List.getElem?_set_self (by simpa using x.lt)))⟩
 ·exact .inr ⟨q,(List.getElem?_set_ne (Ne.symm q)).symm.trans x.e,x.v⟩
theorem Rel.change (R:Rel P W hp h){l:Nat}{o o':O}(v:Lv hp l o)(hs:∀ b,b≠W.ρ l→h'.get? b=h.get? b)(g:Got h' (W.ρ l) (OR P W o'))(hF:∀ ob ob',h.get? (W.ρ l)=some ob→h'.get? (W.ρ l)=some ob'→frm ob=true→frm ob'=true):Rel P W (hp.set l o') h'∧Ext W hp h W (hp.set l o') h':=
 have pk:∀ k o1,Lv (hp.set l o') k o1→From P W hp h' W (id k) k o1:=λk o1 x=>match x.set with
  |.inl ⟨e,e'⟩=>e▸e' ▸ .mk o v rfl g (R.cold _ _ v)
  |.inr ⟨n,y⟩=>.mk o1 y rfl ((R.obj _ _ y).imp (λ_ e=>(hs _ λq=>n (R.inj _ _ _ _ y v q)).trans e) λ_=>id) (R.cold _ _ y)
 have other:∀ a o,h.get? a=some o→a≠W.ρ l→h'.get? a=some o:=λa _ e n=>(hs a n).trans e
 ⟨R.via (k:=id) (by rw[R.len,List.length_set]) (λa _ e=>other a _ (R.fz a _ e) λq=>jK (q▸e) (R.cold _ _ v)) R.nf pk λ_ _ _ _=>id,
  .refl W,λa o1 e=>⟨λn=>.here (other a o1 e λq=>n (.mk l o v q.symm)),From.live pk,(Classical.em (a=W.ρ l)).elim (λq=>(by rcases g with⟨ob,g,_⟩;exact .mk ob (q▸g) (hF o1 ob (q▸e) g))) λq=>.here (other a o1 e q),λ_=>.inl⟩⟩
theorem Rel.update (R:Rel P W hp h){l:Nat}{o o':O}{f:Obj→Obj}{ob:Obj}(v:Lv hp l o)(hb:h.get? (W.ρ l)=some ob)(ho:OR P W o' (f ob))(hF:frm ob=true→frm (f ob)=true:=by exact λq=>nomatch q):Rel P W (hp.set l o') (h.update (W.ρ l) f)∧Ext W hp h W (hp.set l o') (h.update (W.ρ l) f):=
 have g:=Heap.get?_update_self f hb ho.free
 R.change v (λ_ n=>Heap.get?_update_other h f (Ne.symm n)) (.mk _ g ho) λx y e e' q=>A9 (g.symm.trans e')▸hF (A9 (e.symm.trans hb)▸q)
theorem Rel.forget (R:Rel P W hp h)(l:Nat):Rel P W (hp.set l .gone) h∧Ext W hp h W (hp.set l .gone) h:=
 have pk:∀ k o1,Lv (hp.set l .gone) k o1→From P W hp h W (id k) k o1:=λk o1 x=>match x.set with
  |.inl ⟨_,e'⟩=>nomatch (e'▸x.v:O.live .gone=true)
  |.inr ⟨_,y⟩=>.mk o1 y rfl (R.obj _ _ y) (R.cold _ _ y)
 ⟨R.via (k:=id) (by rw[R.len,List.length_set]) R.fz R.nf pk λ_ _ _ _=>id,.refl W,λ_ _ e=>⟨λ_=>.here e,From.live pk,.here e,λ_=>.inl⟩⟩
theorem Rel.poke {a:Addr}(R:Rel P W hp h)(hl:¬ Live W hp a)(hz:W.fz a=none)(hk:∀ b o,b≠a→h.get? b=some o→h'.get? b=some o):Rel P W hp h':=
 R.via (k:=id) R.len (λb o e=>hk b o (λq=>jK (q▸e) hz) (R.fz b o e)) R.nf (λ_ o v=>.mk o v rfl ((R.obj _ _ v).imp (λob=>hk _ ob λq=>hl (.mk _ o v q)) λ_=>id) (R.cold _ _ v)) λ_ _ _ _=>id
theorem Ext.poke {a:Addr}(E:Ext W hp h W' hp' h')(ha:h.get? a=none)(hk:∀ b o,b≠a→h'.get? b=some o→h''.get? b=some o):Ext W hp h W' hp' h'':=
 ⟨E.le,λb o e=>let X:=E.at_ b o e;have ne:b≠a:=λq=>jK (q▸e) ha;⟨λn=>(by rcases X.keep n with⟨o',g,u⟩;exact .mk o' (hk b o' ne g) u),X.live,(by rcases X.ex with⟨o',e',f⟩;exact .mk o' (hk b o' ne e') f),X.cool⟩⟩
noncomputable def Wd.push (W:Wd)(a:Addr):Wd:=⟨W.n+1,λl=>if l=W.n then a else W.ρ l,W.fz⟩
noncomputable def Wd.freeze (W:Wd)(a:Addr)(o:Obj):Wd:=⟨W.n,W.ρ,λb=>if b=a then some o else W.fz b⟩
theorem Wd.le_push (W:Wd)(a:Addr):W.le (W.push a):=⟨Nat.le_succ _,λ_ q=>if_neg (Nat.ne_of_lt q),λ_ _=>id⟩
theorem Wd.fz_freeze {W:Wd}{a b:Addr}{o o':Obj}(z:W.fz a=none)(e:W.fz b=some o'):(W.freeze a o).fz b=some o':=(if_neg λq=>jK (q▸e) z).trans e
theorem Wd.nf_freeze {W:Wd}{a:Addr}{ob:Obj}(nf:∀ a o,W.fz a=some o→iQ a o=false)(hn:frm ob=false)(b:Addr)(o:Obj)(e:(W.freeze a ob).fz b=some o):iQ b o=false:=
 (Classical.em (b=a)).elim (λq=>A9 ((if_pos q).symm.trans e)▸kP hn) λq=>nf b o ((if_neg q).symm.trans e)
theorem Wd.le_freeze {W:Wd}{a:Addr}{o:Obj}(z:W.fz a=none):W.le (W.freeze a o):=⟨A7 _,λ_ _=>rfl,λ_ _=>fz_freeze z⟩
theorem Rel.new_cold (R:Rel P W hp h):W.fz h.objs.size=none:=match e:W.fz h.objs.size with
 |none=>rfl
 |some o=>absurd (Heap.lt_size (R.fz _ o e)) (Nat.lt_irrefl _)
theorem Rel.new_live (R:Rel P W hp h):¬ Live W hp h.objs.size:=λ|.mk l o v e=>(by rcases R.obj l o v with⟨_,g,_⟩;exact absurd (Heap.lt_size (e▸g)) (Nat.lt_irrefl _))
theorem Rel.push_at (R:Rel P W hp h)(a:Addr):(W.push a).ρ hp.length=a:=if_pos R.len.symm
theorem Lv.push {l:Nat}{o o':O}(x:Lv (hp++[o]) l o'):(l=hp.length∧o'=o)∨(l<hp.length∧Lv hp l o'):=by
 by_cases q:l<hp.length
 ·exact .inr ⟨q,(List.getElem?_append_left q).symm.trans x.e,x.v⟩
 ·have:=x.lt
  obtain rfl:l=hp.length:=by rw[A2]at this;exact Nat.le_antisymm (Nat.le_of_lt_succ this) (Nat.le_of_not_lt q)
  exact .inl ⟨rfl,A9 (x.e.symm.trans List.getElem?_concat_length)⟩
theorem Rel.alloc (R:Rel P W hp h){o:O}{ob:Obj}(ho:OR P (W.push h.objs.size) o ob):
  Rel P (W.push h.objs.size) (hp++[o]) (h.push ob)∧Ext W hp h (W.push h.objs.size) (hp++[o]) (h.push ob):=
 have le:=Wd.le_push W h.objs.size
 have old:∀ l,l<hp.length→(W.push h.objs.size).ρ l=W.ρ l:=λl q=>le.ρ l (R.len▸q)
 have far:∀ l o1,l<hp.length→Lv hp l o1→W.ρ l≠h.objs.size:=λl o1 _ v e=>R.new_live (.mk l o1 v e)
 ⟨⟨by rw[A2,← R.len];rfl,
  λl o1 v=>match v.push with
   |.inl ⟨e,e'⟩=>e▸e' ▸ (R.push_at _).symm ▸ .mk ob (Heap.get?_push_size _ ho.free) ho
   |.inr ⟨q,y⟩=>(old l q).symm ▸ (R.obj _ _ y).imp (λ_=>Heap.get?_push_of_some _) λ_=>OR.mono le,
  λl o1 v=>match v.push with
   |.inl ⟨e,_⟩=>e ▸ (R.push_at _).symm▸R.new_cold
   |.inr ⟨q,y⟩=>(old l q).symm▸R.cold _ _ y,
  λl l' o1 o2 v v' e=>match v.push,v'.push with
   |.inl ⟨a,_⟩,.inl ⟨b,_⟩=>a.trans b.symm
   |.inl ⟨a,_⟩,.inr ⟨q,y⟩=>absurd (((old l' q).symm.trans e.symm).trans (a▸R.push_at _)) (far l' _ q y)
   |.inr ⟨q,y⟩,.inl ⟨a,_⟩=>absurd (((old l q).symm.trans e).trans (a▸R.push_at _)) (far l _ q y)
   |.inr ⟨q,y⟩,.inr ⟨q',y'⟩=>R.inj _ _ _ _ y y' ((old l q).symm.trans (e.trans (old l' q'))),
  λa o1 e=>Heap.get?_push_of_some _ (R.fz a o1 e),R.nf⟩,
  le,λa o1 e=>⟨λ_=>.here (Heap.get?_push_of_some _ e),λ|.mk l o2 v q=>match v.push with
   |.inl ⟨a,_⟩=>absurd (Heap.lt_size e) (by rw[← q,a,R.push_at];exact Nat.lt_irrefl _)
   |.inr ⟨q',y⟩=>.mk l o2 y ((old l q').symm.trans q),.here (Heap.get?_push_of_some _ e),λ_=>.inl⟩⟩
theorem Rel.allocZ (R:Rel P W hp h){ob:Obj}(hf:ob.isFreed=false)(hn:frm ob=false:=by rfl):
  Rel P (W.freeze h.objs.size ob) hp (h.push ob)∧Ext W hp h (W.freeze h.objs.size ob) hp (h.push ob):=
 have le:=Wd.le_freeze (o:=ob) R.new_cold
 have pk:∀ l o1,Lv hp l o1→From P W hp (h.push ob) (W.freeze h.objs.size ob) (id l) l o1:=λl o1 v=>.mk o1 v rfl ((R.obj _ _ v).imp (λ_=>Heap.get?_push_of_some _) λ_=>OR.mono le)
  ((if_neg λq=>R.new_live (.mk l o1 v q)).trans (R.cold _ _ v))
 ⟨R.via (k:=id) R.len (λa o1 e=>by
  by_cases q:a=h.objs.size
  ·subst q;rw[← A9 ((if_pos rfl).symm.trans e)];exact Heap.get?_push_size _ hf
  ·exact Heap.get?_push_of_some _ (R.fz _ _ ((if_neg q).symm.trans e))) (Wd.nf_freeze R.nf hn) pk λ_ _ _ _=>id,
  le,λa o1 e=>⟨λ_=>.here (Heap.get?_push_of_some _ e),From.live pk,.here (Heap.get?_push_of_some _ e),λ_ f=>.inl ((if_neg (Nat.ne_of_lt (Heap.lt_size e))).symm.trans f)⟩⟩
end
end
section
noncomputable def V.dt:V→Option D
 |.dat d=>some d
 |_=>none
theorem V.dt_eq {v:V}{d:D}(h:v.dt=some d):v=.dat d:=by
 cases v with
 |dat _=>exact congrArg V.dat (A9 h)
 |_=>cases h
noncomputable def AO:List V→Option (List D)
 | []=>some []
 |v::r=>v.dt.bind λd=>(AO r).map (d::·)
noncomputable def NG:List (Nm×V)→Option (List (Nm×D))
 | []=>some []
 |x::r=>x.2.dt.bind λd=>(NG r).map ((x.1,d)::·)
theorem bA {α β:Type}{f:α→β}{x:Option α}{y:β}(h:x.map f=some y):∃ z,x=some z∧f z=y:=Option.map_eq_some_iff.mp h
theorem aK {α β:Type}{f:α→Option β}{x:Option α}{y:β}(h:x.bind f=some y):∃ z,x=some z∧f z=some y:=Option.bind_eq_some_iff.mp h
section
variable {P:Params}{W:Wd}
theorem mL:∀ {vs:List V} {ds:List D} {us:List Value},VRs P W vs us→AO vs=some ds→DRs P W.fz ds us
 | [],_,_,h,e=>A9 e▸h
 |_::_,_,_,.mk a r,e=>(aK e).elim λ_ q=>(bA q.2).elim λ_ q'=>q'.2 ▸ .mk (V.dt_eq q.1▸a:VR P W (.dat _) _) (mL r q'.1)
theorem xH:∀ {vs:List (Nm×V)} {ds:List (Nm×D)} {us:List DictEntry},ER P W vs us→NG vs=some ds→DRe P W.fz ds us
 | [],_,_,h,e=>A9 e▸h
 |_::_,_,_,.mk a r,e=>(aK e).elim λ_ q=>(bA q.2).elim λ_ q'=>q'.2 ▸ .mk (a.imp λu (z:VR P W _ u)=>(V.dt_eq q.1▸z:VR P W (.dat _) u)) (xH r q'.1)
end
theorem O.live_mp {r:Nat→V}{k:Nat→Nat}:∀ o:O,(o.mp r k).live=o.live
 |.gone|.lst _|.tup _|.ns _|.fr _|.cel none|.cel (some _)|.ins _ _|.dls _=>rfl
inductive LvM (r:Nat→V) (k:Nat→Nat) (hp:List O) (l:Nat):O→Prop
 |mk (o:O) (v:Lv hp l o):LvM r k hp l (o.mp r k)
theorem Lv.mapped {r:Nat→V}{k:Nat→Nat}{hp:List O}{l:Nat}{o':O}(x:Lv (hp.map (O.mp r k)) l o'):LvM r k hp l o':=
 (bA (List.getElem?_map.symm.trans x.e)).elim λo q=>q.2 ▸ .mk o ⟨q.1,(O.live_mp o).symm.trans (q.2▸x.v)⟩
theorem O.cl_all:∀ o:O,o.cl (λ_=>true)=true
 |.gone=>rfl
 |.lst _=>List.all_eq_true.mpr λ_ _=>V.cl_all _
 |.tup _=>List.all_eq_true.mpr λ_ _=>V.cl_all _
 |.ns _=>List.all_eq_true.mpr λ_ _=>V.cl_all _
 |.fr _=>List.all_eq_true.mpr λ_ _=>V.cl_all _
 |.cel none=>rfl
 |.cel (some _)=>V.cl_all _
 |.ins _ _=>rfl
 |.dls _=>rfl
noncomputable def sb (l:Nat)(d:D)(k:Nat):V:=match Nat.beq k l with
 |true=>.dat d
 |false=>.ref k
noncomputable def O.dt:O→Option D
 |.lst xs=>(AO xs).map .lst
 |.tup xs=>(AO xs).map .tup
 |.ns es=>(NG es).map .dct
 |.dls xs=>some (.lst xs)
 |_=>none
noncomputable def Bk (l:Nat)(hp:List O):Option D:=hp[l]?.bind O.dt
inductive Vw (P:Params) (W:Wd) (hp:List O) (h:Heap) (hp':List O) (r:Nat→V) (k:Nat→Nat):Prop
 |mk (W':Wd) (R:Rel P W' hp' h) (E:Ext W hp h W' hp' h) (m:Mv P W W' r k λ_=>true) (C:∀ a,¬ Live W hp a→W.fz a=none→¬ Live W' hp' a∧W'.fz a=none)
section
variable {P:Params}{W W' WS:Wd}{hp hp' hpS:List O}{h h':Heap}
theorem Bl {d:Option Addr}{en:Array DictEntry}{n:Nat}{sl:Array (Option Value)}:frm ⟨.type "dict",d,.dict en n,sl⟩=false:=by
 show decide (("dict" :String)="frame")=false
 decide
theorem OR.nofrm {o:O}{ob:Obj}(n:∀ es,o≠.fr es)(r:OR P W o ob):frm ob=false:=by
 cases o with
 |lst xs=>exact match ob,(r:OSeq "list" (VRs P W xs) ob)with|_,.mk .. =>rfl
 |tup xs=>exact match ob,(r:OSeq "tuple" (VRs P W xs) ob)with|_,.mk .. =>rfl
 |ns es=>exact match ob,(r.2:ONs (ER P W es) ob)with|_,.mk .. =>Bl
 |fr es=>exact absurd rfl (n es)
 |cel x=>exact match ob,(r:OCel (CR (VR P W) x) ob)with|_,.mk .. =>rfl
 |ins c d=>exact match ob,(r:OIns W c d ob)with|_,.mk .. =>rfl
 |dls xs=>exact match ob,(r:OSeq "list" (DRs P W.fz xs) ob)with|_,.mk .. =>rfl
 |gone=>exact r.elim
theorem Rel.nof (R:Rel P W hp h){l:Nat}{o:O}(v:Lv hp l o)(n:∀ es,o≠.fr es)(ob ob':Obj)(e:h.get? (W.ρ l)=some ob)(_:h'.get? (W.ρ l)=some ob')(q:frm ob=true):frm ob'=true:=match R.obj _ _ v with
 |.mk _ g r=>Bool.noConfusion (q.symm.trans (A9 (g.symm.trans e)▸r.nofrm n))
theorem OR.upto {o:O}{x:Addr}{ob ob':Obj}(r:OR P W o ob)(u:Upto x ob ob'):OR P W o ob':=by
 cases u with
 |id=>exact r
 |sl f s=>cases o with
  |fr es=>exact match ob,(r:OFr (ER P W es) ob)with|_,.mk c en n d=>.mk c en n d
  |_=>exact Bool.noConfusion (f.symm.trans (kP (OR.nofrm (by intro es q;cases q) r)))
theorem Rel.freeze (R:Rel P W hp h){l:Nat}{o:O}{d:D}{ob:Obj}(v:Lv hp l o)(g:h.get? (W.ρ l)=some ob)(hn:frm ob=false)(hd:DR P (W.freeze (W.ρ l) ob).fz d (.ref (W.ρ l))):
  Vw P W hp h ((hp.set l .gone).map (O.mp (sb l d) id)) (sb l d) id:=
 have z:=R.cold _ _ v
 have le:=Wd.le_freeze (o:=ob) z
 have m:Mv P W (W.freeze (W.ρ l) ob) (sb l d) id λ_=>true:=⟨λk _ q=>by
  unfold sb
  cases e:Nat.beq k l with
  |true=>exact B0 e▸hd
  |false=>exact⟨q,rfl⟩,λ_ _=>id,λ_ _ _=>rfl,le.fz⟩
 have pk:∀ k o1,Lv ((hp.set l .gone).map (O.mp (sb l d) id)) k o1→From P W hp h (W.freeze (W.ρ l) ob) (id k) k o1:=λk o1 x=>match x.mapped with
  |.mk o2 y=>match y.set with
   |.inl ⟨_,e'⟩=>nomatch (e'▸y.v:O.live .gone=true)
   |.inr ⟨n,y⟩=>.mk o2 y rfl ((R.obj _ _ y).imp (λ_=>id) λ_=>OR.go m (O.cl_all o2)) ((if_neg λq=>n (R.inj _ _ _ _ y v q)).trans (R.cold _ _ y))
 .mk _ (R.via (k:=id) (by rw[List.length_map,List.length_set];exact R.len) (λa o1 e=>by
   by_cases q:a=W.ρ l
   ·subst q;rw[← A9 ((if_pos rfl).symm.trans e)];exact g
   ·exact R.fz _ _ ((if_neg q).symm.trans e)) (Wd.nf_freeze R.nf hn) pk λ_ _ _ _=>id)
  ⟨le,λa o1 e=>⟨λ_=>.here e,From.live pk,.here e,λo2 f=>by
   by_cases q:a=W.ρ l
   ·exact .inr (.mk l o v q.symm)
   ·exact .inl ((if_neg q).symm.trans f)⟩⟩ m λa n c=>⟨λx=>n (From.live pk x),(if_neg λq=>n (.mk l o v q.symm)).trans c⟩
theorem O.dt_ok {fz:Addr→Option Obj}(hz:∀ a o,W.fz a=some o→fz a=some o){a:Addr}{o:O}{d:D}{ob:Obj}(e:o.dt=some d)(r:OR P W o ob)(f:fz a=some ob):DR P fz d (.ref a):=by
 cases o with
 |lst xs=>exact match(r:OSeq "list" (VRs P W xs) ob),f with|.mk vs n q,f=>(bA e).elim λ_ x=>x.2 ▸ .mk _ vs n f (DRs.mono hz (mL q x.1))
 |tup xs=>exact match(r:OSeq "tuple" (VRs P W xs) ob),f with|.mk vs n q,f=>(bA e).elim λ_ x=>x.2 ▸ .mk _ vs n f (DRs.mono hz (mL q x.1))
 |ns es=>exact match(r.2:ONs (ER P W es) ob),f with|.mk en n q,f=>(bA e).elim λ_ x=>x.2 ▸ .mk _ en n f (DRe.mono hz (xH q x.1))
 |dls xs=>exact match(r:OSeq "list" (DRs P W.fz xs) ob),f with|.mk vs n q,f=>A9 e ▸ .mk _ vs n f (DRs.mono hz q)
 |_=>cases e
theorem O.dt_fr {o:O}{d:D}(e:o.dt=some d)(es:List (Nm×V)):o≠.fr es:=λq=>by rw[q]at e;cases e
theorem O.dt_live {o:O}{d:D}(h:o.dt=some d):o.live=true:=by
 cases o with
 |gone=>cases h
 |_=>rfl
theorem Bn (R:Rel P W hp h){l:Nat}{d:D}(e:Bk l hp=some d):Vw P W hp h ((hp.set l .gone).map (O.mp (sb l d) id)) (sb l d) id:=
 (aK e).elim λo q=>have v:Lv hp l o:=⟨q.1,O.dt_live q.2⟩;match R.obj _ _ v with
  |.mk _ g r=>R.freeze v g (r.nofrm (O.dt_fr q.2)) (O.dt_ok (Wd.le_freeze (R.cold _ _ v)).fz q.2 r (if_pos rfl))
noncomputable def Ls:List Nat→Nat→Option Nat
 | [],_=>none
 |x::r,l=>match Nat.beq x l with
  |true=>some 0
  |false=>(Ls r l).map (· +1)
noncomputable def fF (σ:List Nat)(l:Nat):Bool:=(Ls σ l).isSome
noncomputable def kr (σ:List Nat)(l:Nat):Nat:=(Ls σ l).getD 0
noncomputable def kept (σ:List Nat)(hp:List O):List O:=σ.map λl=>(hp[l]?.getD .gone).ren (kr σ)
noncomputable def gE (σ:List Nat)(hp:List O):Bool:=σ.all λl=>(hp[l]?.getD .gone).cl (fF σ)
noncomputable def Lu:List Nat→Bool
 | []=>true
 |x::r=> !fF r x&&Lu r
noncomputable def qS (σ:List Nat)(i:Nat):Nat:=σ[i]?.getD 0
noncomputable def gW (W:Wd)(σ:List Nat):Wd:=⟨σ.length,λi=>W.ρ (qS σ i),W.fz⟩
theorem uY:∀ {σ:List Nat} {l i:Nat},Ls σ l=some i→σ[i]? =some l
 |x::r,l,i,e=>by
  have e:(bif Nat.beq x l then some 0 else(Ls r l).map (· +1))=some i:=e
  cases q:Nat.beq x l with
  |true=>rw[q]at e;exact A9 e▸congrArg some (B0 q)
  |false=>rw[q]at e;exact(bA e).elim λj z=>z.2▸uY (σ:=r) z.1
theorem uZ:∀ {σ:List Nat} {l:Nat},l∈σ→fF σ l=true
 |x::r,l,m=>by
  unfold fF Ls
  cases q:Nat.beq x l with
  |true=>rfl
  |false=>
   have:l∈r:=(List.mem_cons.mp m).elim (λe=>by rw[e,Nat.beq_refl]at q;cases q) id
   exact(Option.isSome_map ..).trans (uZ this)
theorem Lw:∀ {σ:List Nat},Lu σ=true→σ.Nodup
 | [],_=>List.nodup_nil
 |x::r,e=>List.nodup_cons.mpr ⟨λm=>(nomatch (uZ m).symm.trans ((Bool.not_eq_true' _).mp (A0 e).1)),Lw (A0 e).2⟩
theorem Lx {σ:List Nat}{l:Nat}(e:fF σ l=true):σ[kr σ l]? =some l:=(Option.isSome_iff_exists.mp e).elim λi q=>by
 unfold kr;rw[q];exact uY q
theorem SJ {σ:List Nat}{l:Nat}(e:fF σ l=true):kr σ l<σ.length:=(List.getElem?_eq_some_iff.mp (Lx e)).1
theorem jM {σ:List Nat}{i l:Nat}(e:σ[i]? =some l):qS σ i=l:=congrArg (·.getD 0) e
theorem mZ (P:Params)(W:Wd)(σ:List Nat):Mv P W (gW W σ) (λl=>.ref (kr σ l)) (kr σ) (fF σ):=.ren (λ_ c _=>SJ c) (λ_ c _=>congrArg W.ρ (jM (Lx c))) λ_ _=>id
theorem Lv.kept {σ:List Nat}{i:Nat}{o':O}(x:Lv (kept σ hp) i o'):∃ l o,σ[i]? =some l∧Lv hp l o∧o'=o.ren (kr σ)∧hp[l]?.getD .gone=o:=by
 obtain⟨l,h1,h2⟩:=bA (List.getElem?_map.symm.trans x.e)
 have hv:=h2.symm▸x.v
 cases q:hp[l]? with
 |none=>rw[q]at hv;cases hv
 |some o=>rw[q]at h2 hv;exact⟨l,o,h1,⟨q,(O.live_mp o).symm.trans hv⟩,h2.symm,by rw[q];rfl⟩
theorem hY {σ:List Nat}(R:Rel P W hp h)(cl:gE σ hp=true)(i:Nat)(o':O)(x:Lv (kept σ hp) i o'):From P W hp h (gW W σ) (qS σ i) i o':=
 match x.kept with
 |⟨l,o,h1,h2,h3,h4⟩=>by
  have e:=jM h1
  have c:=List.all_eq_true.mp cl l (List.mem_of_getElem? h1)
  rw[h4]at c
  exact .mk o (e.symm▸h2) rfl (h3▸e.symm ▸ (R.obj _ _ h2).imp (λ_=>id) λ_=>OR.go (mZ P W σ) c) (e.symm▸R.cold _ _ h2)
theorem Rel.keep {σ:List Nat}(R:Rel P W hp h)(nd:Lu σ=true)(cl:gE σ hp=true):Rel P (gW W σ) (kept σ hp) h:=
 R.via (k:=qS σ) (List.length_map ..).symm R.fz R.nf (hY R cl) λi j hi hj e=>by
  have hi':σ[i]? =some (qS σ i):=by unfold qS;rw[List.getElem?_eq_getElem hi];rfl
  have hj':σ[j]? =some (qS σ j):=by unfold qS;rw[List.getElem?_eq_getElem hj];rfl
  exact(List.getElem?_inj hi (Lw nd)).mp (hi'.trans ((congrArg some e).trans hj'.symm))
theorem Ext.keep {W0:Wd}{hp0:List O}{h0:Heap}{τ:List Nat}(E:Ext W0 hp0 h0 W hp h)(R:Rel P W hp h)(cl:gE (List.range W0.n++τ) hp=true):Ext W0 hp0 h0 (gW W (List.range W0.n++τ)) (kept (List.range W0.n++τ) hp) h:=
 have at_:∀ l,l<W0.n→qS (List.range W0.n++τ) l=l:=λl q=>jM (by rw[List.getElem?_append_left (by simpa using q)];exact List.getElem?_range q)
 ⟨⟨by show _≤(List.range W0.n++τ).length;rw[A2,List.length_range];exact Nat.le_add_right _ _,λl q=>(congrArg W.ρ (at_ l q)).trans (E.le.ρ l q),E.le.fz⟩,
  λa o e=>let X:=E.at_ a o e;⟨X.keep,λx=>X.live (From.live (hY R cl) x),X.ex,X.cool⟩⟩
noncomputable def rn (σ:List Nat)(k i:Nat):Nat:=match σ[i]? with
 |some l=>l
 |none=>k+(i-σ.length)
noncomputable def AP (f:Nat→O→O):Nat→List O→List O
 |_,[]=>[]
 |n,x::r=>f n x::AP f (n+1) r
theorem xI (f:Nat→O→O):∀ (n i:Nat) (xs:List O),(AP f n xs)[i]? =xs[i]?.map (f (n+i))
 |_,_,[]=>rfl
 |_,0,_::_=>rfl
 |n,i+1,_::r=>(xI f (n+1) i r).trans (by rw[Nat.add_right_comm];rfl)
theorem gX (f:Nat→O→O):∀ (n:Nat) (xs:List O),(AP f n xs).length=xs.length
 |_,[]=>rfl
 |n,_::r=>congrArg (· +1) (gX f (n+1) r)
noncomputable def NH (σ:List Nat)(k:Nat)(hpS:List O)(l:Nat)(o:O):O:=match Ls σ l with
 |some i=>(hpS[i]?.getD .gone).ren (rn σ k)
 |none=>o
noncomputable def fY (σ:List Nat)(hp hpS:List O):List O:=AP (NH σ hp.length hpS) 0 hp++(hpS.drop σ.length).map (O.ren (rn σ hp.length))
noncomputable def NI (W WS:Wd)(σ:List Nat):Wd:=⟨W.n+(WS.n-σ.length),λl=>if l<W.n then W.ρ l else WS.ρ (σ.length+(l-W.n)),WS.fz⟩
inductive MrgA (σ:List Nat) (k:Nat) (hpS:List O) (l:Nat):O→Prop
 |mk (i:Nat) (o:O) (v:Lv hpS i o) (e:l=rn σ k i):MrgA σ k hpS l (o.ren (rn σ k))
theorem Ly {σ:List Nat}{k i l:Nat}(e:σ[i]? =some l):rn σ k i=l:=by unfold rn;rw[e]
theorem Bo {σ:List Nat}{k i:Nat}(e:σ.length≤i):rn σ k i=k+(i-σ.length):=by unfold rn;rw[List.getElem?_eq_none e]
theorem gY {σ:List Nat}{l:Nat}{o:O}(x:Lv (fY σ hp hpS) l o):MrgA σ hp.length hpS l o∨(fF σ l=false∧l<hp.length∧Lv hp l o):=by
 have e:=x.e
 unfold fY at e
 by_cases q:l<hp.length
 ·rw[List.getElem?_append_left (by rw[gX];exact q),xI,Nat.zero_add]at e
  obtain⟨o0,h1,h2⟩:=bA e
  unfold NH at h2
  cases z:Ls σ l with
  |some i=>
   rw[z]at h2
   have h2:(hpS[i]?.getD .gone).ren (rn σ hp.length)=o:=h2
   cases y:hpS[i]? with
   |none=>rw[y]at h2;exact nomatch (h2▸x.v:O.live (O.ren (rn σ hp.length) .gone)=true)
   |some oS=>rw[y]at h2;exact h2 ▸ .inl (.mk i oS ⟨y,(O.live_mp oS).symm.trans (h2.symm▸x.v)⟩ (Ly (uY z)).symm)
  |none=>
   rw[z]at h2
   exact .inr ⟨by unfold fF;rw[z];rfl,q,h2▸h1,x.v⟩
 ·rw[List.getElem?_append_right (by rw[gX];exact Nat.le_of_not_lt q),gX,List.getElem?_map,List.getElem?_drop]at e
  obtain⟨oS,h1,h2⟩:=bA e
  subst h2
  exact .inl (.mk _ oS ⟨h1,(O.live_mp oS).symm.trans x.v⟩ (by rw[Bo (Nat.le_add_right _ _),Nat.add_sub_cancel_left,Nat.add_sub_cancel' (Nat.le_of_not_lt q)]))
inductive Mrg (P:Params) (W:Wd) (hp:List O) (h:Heap) (WS:Wd) (hpS:List O) (h':Heap) (σ:List Nat):Prop
 |mk (W':Wd) (R:Rel P W' (fY σ hp hpS) h') (E:Ext W hp h W' (fY σ hp hpS) h') (m:Mv P WS W' (λl=>.ref (rn σ hp.length l)) (rn σ hp.length) λ_=>true)
theorem HO {σ:List Nat}(R:Rel P W hp h)(lt:∀ l∈σ,l<hp.length)(cl:gE σ hp=true)(R':Rel P WS hpS h')(E:Ext (gW W σ) (kept σ hp) h WS hpS h'):Mrg P W hp h WS hpS h' σ:=by
 have hn:σ.length≤WS.n:=E.le.n
 have lo:∀ l,l<W.n→(NI W WS σ).ρ l=W.ρ l:=λl q=>if_pos q
 have le:W.le (NI W WS σ):=⟨Nat.le_add_right _ _,lo,E.le.fz⟩
 have at_:∀ i,i<WS.n→rn σ hp.length i < (NI W WS σ).n∧(NI W WS σ).ρ (rn σ hp.length i)=WS.ρ i:=λi hi=>by
  by_cases q:i<σ.length
  ·have e:σ[i]? =some σ[i]:=List.getElem?_eq_getElem q
   have q':σ[i]<W.n:=R.len▸lt _ (List.getElem_mem q)
   rw[Ly e,lo _ q',E.le.ρ i q]
   exact⟨A6 q' le.n,congrArg W.ρ (jM e).symm⟩
  ·have q:=Nat.le_of_not_lt q
   rw[Bo q,← R.len]
   refine⟨Nat.add_lt_add_left (Nat.sub_lt_sub_right q hi) _,(if_neg (Nat.not_lt.mpr (Nat.le_add_right _ _))).trans ?_⟩
   rw[Nat.add_sub_cancel_left,Nat.add_sub_cancel' q]
 have m:Mv P WS (NI W WS σ) (λl=>.ref (rn σ hp.length l)) (rn σ hp.length) λ_=>true:=.ren (λi _ q=>(at_ i q).1) (λi _ q=>(at_ i q).2) λ_ _=>id
 have sm:∀ {a:Addr},Live (gW W σ) (kept σ hp) a→Live W hp a:=From.live (hY R cl)
 have apart:∀ l o,fF σ l=false→Lv hp l o→¬ Live (gW W σ) (kept σ hp) (W.ρ l):=λl o hi v x=>match x with
  |.mk i o' y e=>match y.kept with
   |⟨l',o2,h1,h2,_,_⟩=>by
    obtain rfl:l'=l:=R.inj _ _ _ _ h2 v ((congrArg W.ρ (jM h1)).symm.trans e)
    rw[uZ (List.mem_of_getElem? h1)]at hi;cases hi
 have old:∀ l o,fF σ l=false→Lv hp l o→Got h' (W.ρ l) (OR P (NI W WS σ) o)∧WS.fz (W.ρ l)=none∧¬ Live WS hpS (W.ρ l):=λl o hi v=>match R.obj l o v with
  |.mk ob g r=>let X:=E.at_ _ _ g
   ⟨match X.keep (apart l o hi v)with|.mk ob' g' u=>.mk ob' g' ((OR.mono le r).upto u),match z:WS.fz (W.ρ l)with
    |none=>rfl
    |some o'=>(X.cool o' z).elim (λf=>(jK f (R.cold _ _ v)).elim) λx=>absurd x (apart l o hi v),λx=>apart l o hi v (X.live x)⟩
 refine .mk (NI W WS σ) ⟨?_,λl o v=>?_,λl o v=>?_,λl l' o o' v v' e=>?_,R'.fz,R'.nf⟩ ⟨le,λa o e=>let X:=E.at_ a o e;⟨λn=>X.keep λx=>n (sm x),λx=>?_,X.ex,λo' f=>(X.cool o' f).imp id sm⟩⟩ m
 ·unfold fY
  rw[A2,gX,List.length_map,List.length_drop,← R'.len,← R.len];rfl
 ·match gY v with
  |.inl (.mk i oS y e)=>exact e ▸ (at_ i (R'.lt y)).2 ▸ (R'.obj _ _ y).imp (λ_=>id) λ_=>OR.go m (O.cl_all oS)
  |.inr ⟨a,b,y⟩=>exact(lo l (R.len▸b)).symm ▸ (old l o a y).1
 ·match gY v with
  |.inl (.mk i oS y e)=>exact e ▸ (at_ i (R'.lt y)).2▸R'.cold _ _ y
  |.inr ⟨a,b,y⟩=>exact(lo l (R.len▸b)).symm ▸ (old l o a y).2.1
 ·match gY v,gY v' with
  |.inl (.mk i oS y q),.inl (.mk i' oS' y' q')=>
   subst q q'
   rw[(at_ i (R'.lt y)).2,(at_ i' (R'.lt y')).2]at e
   rw[R'.inj _ _ _ _ y y' e]
  |.inl (.mk i oS y q),.inr ⟨a,b,y'⟩=>exact absurd (.mk i oS y ((at_ i (R'.lt y)).2.symm.trans (q▸e.trans (lo l' (R.len▸b))))) (old l' _ a y').2.2
  |.inr ⟨a,b,y⟩,.inl (.mk i oS y' q)=>exact absurd (.mk i oS y' ((at_ i (R'.lt y')).2.symm.trans (q▸e.symm.trans (lo l (R.len▸b))))) (old l _ a y).2.2
  |.inr ⟨_,b,y⟩,.inr ⟨_,b',y'⟩=>exact R.inj _ _ _ _ y y' ((lo l (R.len▸b)).symm.trans (e.trans (lo l' (R.len▸b'))))
 ·match x with
  |.mk l o1 v q=>match gY v with
   |.inl (.mk i oS y z)=>exact sm (X.live (.mk i oS y ((at_ i (R'.lt y)).2.symm.trans (z▸q))))
   |.inr ⟨_,b,y⟩=>exact .mk l o1 y ((lo l (R.len▸b)).symm.trans q)
end
end
section
noncomputable def nb:Nm→Nm→Bool
 | [],[]=>true
 |a::x,b::y=>match Nat.beq a b with
  |true=>nb x y
  |false=>false
 | [],_::_=>false
 |_::_,[]=>false
theorem b9:∀ {x y:Nm},nb x y=true→x=y
 | [],[],_=>rfl
 |a::x,b::y,h=>by
  have h:(bif Nat.beq a b then nb x y else false)=true:=h
  cases e:Nat.beq a b with
  |true=>rw[e]at h;rw[B0 e,b9 (x:=x) h]
  |false=>rw[e]at h;cases h
theorem eW:∀ x:Nm,nb x x=true
 | []=>rfl
 |a::x=>by show(bif Nat.beq a a then nb x x else false)=true;rw[Nat.beq_refl];exact eW x
theorem pN {x y:Nm}(h:nb x y=false):x≠y:=λe=>nomatch (e▸h).symm.trans (eW y)
noncomputable def lk {α:Type}:List (Nm×α)→Nm→Option α
 | [],_=>none
 |p::r,x=>match nb p.1 x with
  |true=>some p.2
  |false=>lk r x
noncomputable def pt {α:Type}:List (Nm×α)→Nm→α→List (Nm×α)
 | [],x,v=>[(x,v)]
 |p::r,x,v=>match nb p.1 x with
  |true=>(p.1,v)::r
  |false=>p::pt r x v
theorem m0 (x y:Nm)(t:Tok):(Value.str (st x) t).isStr (st y)=nb x y:=by
 show(st x==st y)=_
 cases e:nb x y with
 |true=>rw[b9 e];exact beq_self_eq_true _
 |false=>exact beq_eq_false_iff_ne.mpr λq=>pN e (mY q)
noncomputable def lU (n:Str):List DictEntry→Option Value
 | []=>none
 |e::r=>match e.key.isStr n with
  |true=>some e.val
  |false=>lU n r
theorem gZ (n:Str):∀ en:List DictEntry,(List.find? (λe:DictEntry=>e.key.isStr n) en).map (·.val)=lU n en
 | []=>rfl
 |e::r=>by
  rw[List.find?_cons,lU]
  cases e.key.isStr n with
  |true=>rfl
  |false=>exact gZ n r
theorem m1 (n:Str)(en:List DictEntry):nsFind en.toArray n=lU n en:=(congrArg (Option.map _) (List.find?_toArray _ _)).trans (gZ n en)
section
variable {P:Params}{W:Wd}
theorem Ent.key {x:Nm}{R:Value→Prop}{e:DictEntry}(y:Nm):Ent P x R e→e.key.isStr (st y)=nb x y
 |.mk _ t _ k _=>by rw[k];exact m0 x y t
theorem Ent.val {x:Nm}{R:Value→Prop}{e:DictEntry}:Ent P x R e→R e.val
 |.mk _ _ _ _ r=>r
theorem ER.keys:∀ {es:List (Nm×V)} {en:List DictEntry},ER P W es en→∀ e∈en,∃ n t,e.key=.str n t
 | [],_,h,_,m=>nomatch ((h:_=[])▸m)
 |_::_,_,.mk a r,_,m=>match List.mem_cons.mp m,a with
  |.inl q,.mk _ t _ k _=>⟨_,t,q▸k⟩
  |.inr q,_=>ER.keys r _ q
theorem ER.skeys {es:List (Nm×V)}{en:List DictEntry}(h:ER P W es en):StrKeys en.toArray:=λe m=>h.keys e (List.mem_toArray.mp m)
theorem ER.find:∀ {es:List (Nm×V)} {en:List DictEntry} {x:Nm} {v:V},ER P W es en→lk es x=some v→∃ u,lU (st x) en=some u∧VR P W v u
 | [],_,_,_=>λ_ h=>nomatch h
 |p::es,_,x,v=>λw h=>by
  obtain⟨e,_,rfl,a,r⟩:=Two.out w
  have h:(bif nb p.1 x then some p.2 else lk es x)=some v:=h
  unfold lU
  rw[a.key x]
  cases q:nb p.1 x with
  |true=>rw[q]at h;exact⟨_,rfl,A9 h▸a.val⟩
  |false=>rw[q]at h;exact ER.find r h
theorem ER.miss:∀ {es:List (Nm×V)} {en:List DictEntry} {x:Nm},ER P W es en→lk es x=none→lU (st x) en=none
 | [],_,_=>λh _=>(h:_=[])▸rfl
 |p::es,_,x=>λw h=>by
  obtain⟨e,_,rfl,a,r⟩:=Two.out w
  have h:(bif nb p.1 x then some p.2 else lk es x)=none:=h
  unfold lU
  rw[a.key x]
  cases q:nb p.1 x with
  |true=>rw[q]at h;cases h
  |false=>rw[q]at h;exact ER.miss r h
theorem ER.put {x:Nm}{v:V}{u:Value}{t:Tok}(hv:VR P W v u):∀ {es:List (Nm×V)} {en:List DictEntry},ER P W es en→ER P W (pt es x v) (putL (st x) (PyData.keyHash P (st x)) (.str (st x) t) u en)
 | [],_,h=>(h:_=[]) ▸ .mk (.mk _ t rfl rfl hv) rfl
 |p::r,_,.mk (a:=e) a q=>by
  show ER P W (bif nb p.1 x then(p.1,v)::r else p::pt r x v) _
  unfold putL
  rw[a.key x]
  cases nb p.1 x with
  |true=>exact .mk (match a with|.mk _ t h k _=>.mk _ t h k hv) q
  |false=>exact .mk a (ER.put hv q)
end
theorem u0 {α:Type}(x:Nm)(v:α):∀ es:List (Nm×α),(pt es x v).length≤es.length+1
 | []=>A7 _
 |p::r=>by
  show(bif nb p.1 x then(p.1,v)::r else p::pt r x v).length≤_
  cases nb p.1 x with
  |true=>exact Nat.le_succ _
  |false=>exact Nat.succ_le_succ (u0 x v r)
theorem xJ {α:Type}(x:Nm)(v:α){y:Nm}:∀ {es:List (Nm×α)},y∈(pt es x v).map (·.1)→y=x∨y∈es.map (·.1)
 | [],h=>.inl (List.mem_singleton.mp h)
 |p::r,h=>by
  have h:y∈(bif nb p.1 x then(p.1,v)::r else p::pt r x v).map (·.1):=h
  cases q:nb p.1 x with
  |true=>rw[q]at h;exact .inr h
  |false=>rw[q]at h;exact(List.mem_cons.mp h).elim (λe=>.inr (e ▸ .head _)) λm=>(xJ x v m).imp id (.tail _)
theorem g6 {α:Type}(x:Nm)(v:α):∀ {es:List (Nm×α)},(es.map (·.1)).Nodup→((pt es x v).map (·.1)).Nodup
 | [],_=>List.nodup_cons.mpr ⟨List.not_mem_nil,List.nodup_nil⟩
 |p::r,h=>by
  show((bif nb p.1 x then(p.1,v)::r else p::pt r x v).map (·.1)).Nodup
  cases q:nb p.1 x with
  |true=>exact h
  |false=>exact List.nodup_cons.mpr ⟨λm=>(xJ x v m).elim (pN q) (List.nodup_cons.mp h).1,g6 x v (List.nodup_cons.mp h).2⟩
structure Cl where
 adr:Nat
 meths:List (Nm×Nat)
 fields:List Nm
 consts:List (Nm×V)
structure TI where
 adr:Nat
 c:Nat
 d:Nat
 es:List (Nm×V)
structure Gam where
 glob:List (Nm×V)
 cls:List Cl
 tops:List TI
 kws:List (Nat×Nm×List Nm)
 blts:List (Nm×V)
noncomputable def W0 (K:Frag):Wd:=⟨0,λ_=>0,λa=>K.lookup a⟩
noncomputable def aO (x:Nm)(l:List Nm):Bool:=l.any λy=>nb y x
structure MethOk (K:Frag) (C:Addr) (m:Nm) (f:Nat):Prop where
 find:findIn K (.ref C) (st m)=some (some (.ref f))
 type:typeIn K (.ref f)=some (.type "function")
 get:specialIn K (.ref f) "__get__" =some (some (.builtin "function.__get__"))
 takes:takesIn K (.ref f)=some false
 copied:copiedNames.contains (st m)=false
inductive ConstOk (P:Params) (K:Frag) (C:Addr) (a:Nm) (v:V):Prop
 |mk (u:Value) (find:findIn K (.ref C) (st a)=some (some u)) (get:specialIn K u "__get__" =some none) (handed:handedIn u=true) (copied:copiedNames.contains (st a)=false) (r:VR P (W0 K) v u)
structure ClOk (P:Params) (K:Frag) (a:Addr) (c:Cl):Prop where
 get:plainGet K a Str.empty=true
 dict:hasDictIn K a=true
 over:plainOver K a=true
 set:findIn K (.ref a) "__setattr__" =some (some (.builtin "object.__setattr__"))
 makes:makesIn K a=true
 keep:keepIn K (.ref a)=true
 fields:∀ x,aO x c.fields=true→findIn K (.ref a) (st x)=some none
 meths:∀ m f,lk c.meths m=some f→MethOk K a m f
 consts:∀ x v,lk c.consts x=some v→ConstOk P K a x v
inductive NsK (K:Frag) (a:Addr) (p:Array DictEntry→Prop):Prop
 |mk (o:Obj) (es:Array DictEntry) (ep:Nat) (l:K.lookup a=some o) (d:o.data=.dict es ep) (k:StrKeys es) (q:p es)
inductive TiOk (P:Params) (K:Frag) (t:TI):Prop
 |mk (en:List DictEntry) (k:Nat) (E:ER P (W0 K) t.es en) (g:K.lookup t.d=some ⟨.type "dict",none,.dict en.toArray k,#[]⟩) (a:K.lookup t.adr=some ⟨.ref t.c,some t.d,.plain,#[]⟩)
noncomputable def Bp:Nm:=[98,117,105,108,116,105,110,115]
inductive ModsOk (K:Frag):Prop
 |mk (e:DictEntry) (r:List DictEntry) (n:Nat) (t:Tok) (l:K.lookup sysModules=some ⟨.type "dict",none,.dict (e::r).toArray n,#[]⟩) (k:e.key=.str (st Bp) t)
noncomputable def m3:List Nm→List Value→List (Str×Value)
 |x::xs,v::vs=>(st x,v)::m3 xs vs
 |_,_=>[]
noncomputable def CelR (W:Wd)(cs:List (Nm×Nat))(ca:List (Str×Addr)):Prop:=∀ x l,lk cs x=some l→l<W.n∧ca.lookup (st x)=some (W.ρ l)
inductive KwOk (K:Frag) (a:Nat) (x:Nm) (ks:List Nm):Prop
 |mk (o:Obj) (fd:FuncData) (at_:K.lookup a=some o) (d:o.data=.func fd) (p:fd.params.args.map (λy=>y.arg.cps.toList)=x::ks)
  (bind:∀ (s:Shared) (v:Value) (us:List Value),K.In s.heap→us.length=ks.length→BindsTo s fd ⟨[v],m3 ks us⟩ (m3 (x::ks) (v::us)))
structure Top (P:Params) (K:Frag) (G:Gam):Prop where
 old:∃ o,K.lookup sL=some o
 mods:ModsOk K
 kws:∀ k∈G.kws,KwOk K k.1 k.2.1 k.2.2
 cls:∀ c∈G.cls,ClOk P K c.adr c
 tops:∀ t∈G.tops,TiOk P K t
 main:NsK K mainGlobals λes=>(∀ x v,lk G.glob x=some v→∃ u,nsFind es (st x)=some u∧VR P (W0 K) v u)∧∀ x v,lk G.blts x=some v→nsFind es (st x)=none
 blt:NsK K builtinsNs λes=>∀ x v,lk G.blts x=some v→∃ u,nsFind es (st x)=some u∧VR P (W0 K) v u
 lim:NsK K cStatics λes=>nsFind es "sys.recursionlimit" =none
structure Cx where
 prog:Program
 w:World
 K:Frag
 G:Gam
 top:Top w.params K G
noncomputable abbrev Cx.P (c:Cx):Params:=c.w.params
noncomputable abbrev Cx.M (c:Cx):Model:=model c.prog c.w
noncomputable abbrev no:Value→Shared→Prop:=λ_ _=>False
noncomputable abbrev Cx.wp (c:Cx){α:Type}(A:Around)(m:Sem α)(Q:α→Shared→Prop)(s:Shared):Prop:=wpAny (model c.prog c.w) A m Q no s
structure Room (n:Nat) (A:Around):Prop where
 hd:A.handled=none
 dp:A.depth+10*n≤900
 un:A.units+20*n≤9000
theorem Room.less {n m:Nat}{A:Around}(h:Room n A)(l:m≤n):Room m A:=⟨h.hd,A5 (Nat.add_le_add_left (Nat.mul_le_mul_left 10 l) _) h.dp,A5 (Nat.add_le_add_left (Nat.mul_le_mul_left 20 l) _) h.un⟩
theorem eD {a b n k c:Nat}(h:a+k * (n+1)≤c)(l:b≤k):a+b+k*n≤c:=by
 rw[Nat.mul_succ]at h
 lia
theorem Room.deeper {n:Nat}{A:Around}{env:Env}(h:Room (n+1) A):Room n (A.deeper env):=⟨h.hd,eD h.dp (by decide),eD h.un (by decide)⟩
theorem Room.in1 {n:Nat}{A:Around}(h:Room (n+1) A):Room n A.in1:=⟨h.hd,A5 (A5 (by show A.depth+10*n≤A.depth+0+10*n;exact A7 _) (eD (b:=0) h.dp (Nat.zero_le _))) (A7 _),eD h.un (by decide)⟩
theorem Room.under {n:Nat}{A:Around}{c:Code}(h:Room (n+1) A)(h1:c.weight≤10)(h2:c.cUnits≤20):Room n (A.under c):=⟨h.hd,eD h.dp h1,eD h.un h2⟩
theorem Room.rl {n:Nat}{A:Around}(h:Room n A):A.depth<recursionLimit:=Nat.lt_of_le_of_lt (A5 (Nat.le_add_right _ _) h.dp) (by decide)
structure GenS (a b:Array GenState):Prop where
 size:a.size≤b.size
 keep:∀ g,g<a.size→b[g]? =a[g]?
 bare:∀ i y,a.size≤i→b[i]? =some y→y.bare=true
theorem GenS.refl (a:Array GenState):GenS a a:=⟨A7 _,λ_ _=>rfl,λ_ _ h e=>(jK e (Array.getElem?_eq_none h)).elim⟩
theorem GenS.trans {a b c:Array GenState}(x:GenS a b)(y:GenS b c):GenS a c:=⟨A5 x.size y.size,λg h=>(y.keep g (A6 h x.size)).trans (x.keep g h),λi z h e=>
 (Nat.lt_or_ge i b.size).elim (λq=>x.bare i z h ((y.keep i q).symm.trans e)) λq=>y.bare i z q e⟩
structure Lat (W:Wd) (hp:List O) (s:Shared) (W':Wd) (hp':List O) (s':Shared):Prop where
 e:Ext W hp s.heap W' hp' s'.heap
 g:GenS s.gens s'.gens
 o:s'.os=s.os
section
variable {W W' W'':Wd}{hp hp' hp'':List O}{s s' s'':Shared}
theorem Lat.refl (W:Wd)(hp:List O)(s:Shared):Lat W hp s W hp s:=⟨.refl ..,.refl _,rfl⟩
theorem Lat.trans (x:Lat W hp s W' hp' s')(y:Lat W' hp' s' W'' hp'' s''):Lat W hp s W'' hp'' s'':=⟨x.e.trans y.e,x.g.trans y.g,y.o.trans x.o⟩
theorem Lat.le (x:Lat W hp s W' hp' s'):W.le W':=x.e.le
theorem Lat.of {h':Heap}{t:Nat}(e:Ext W hp s.heap W' hp' h'):Lat W hp s W' hp' {s with heap:=h',toks:=t}:=⟨e,.refl _,rfl⟩
end
noncomputable abbrev RT (β α:Type):=Wd→β→α→Prop
inductive Post (c:Cx) {α β:Type} (RR:RT β α) (W:Wd) (hp:List O) (s:Shared) (b:β) (hp':List O) (a:α) (s':Shared):Prop
 |mk (W':Wd) (r:Rel c.P W' hp' s'.heap) (l:Lat W hp s W' hp' s') (x:RR W' b a)
inductive FrAt (h:Heap) (env:Env):Prop
 |mk (L:Addr) (o:Obj) (k:env.scope.kind≠.module) (f:env.frame=some L) (g:h.get? L=some o) (m:iQ L o=true)
inductive Fs (A:Around) (h:Heap):Prop
 |mk (l:List Env) (e:A.frames=some l) (a:∀ env∈l,FrAt h env)
theorem FrAt.ext {W W':Wd}{hp hp':List O}{h h':Heap}{env:Env}(E:Ext W hp h W' hp' h'):FrAt h env→FrAt h' env
 |.mk L o k f g m=>(by rcases(E.at_ L o g).ex with⟨o',g',f'⟩;exact .mk L o' k f g' (NE f' m))
theorem Fs.ext {A:Around}{W W':Wd}{hp hp':List O}{h h':Heap}(E:Ext W hp h W' hp' h'):Fs A h→Fs A h'
 |.mk l e a=>.mk l e λenv m=>(a env m).ext E
theorem Fs.in1 {A:Around}{h:Heap}:Fs A h→Fs A.in1 h
 |.mk l e a=>.mk l e a
theorem Fs.out1 {A:Around}{h:Heap}:Fs A.in1 h→Fs A h
 |.mk l e a=>.mk l e a
theorem AQ {d:Option Addr}{en:Array DictEntry}{n:Nat}{sl:Array (Option Value)}:frm ⟨.type "frame",d,.dict en n,sl⟩=true:=by
 show decide (("frame" :String)="frame")=true
 decide
theorem Fs.under {A:Around}{h:Heap}{c:Code}(q:pushEnvs c.envs A.frames=A.frames):Fs A h→Fs (A.under c) h
 |.mk l e a=>.mk l (q.trans e) a
theorem HP {a:Addr}(hn:sL<a){d:Option Addr}{en:Array DictEntry}{n:Nat}{sl:Array (Option Value)}:iQ a ⟨.type "frame",d,.dict en n,sl⟩=true:=by
 have e:Nat.beq a sL=false:=match q:Nat.beq a sL with
  |false=>rfl
  |true=>absurd (B0 q) (Nat.ne_of_gt hn)
 unfold iQ
 rw[e,AQ];rfl
theorem FrAt.new {h:Heap}{env:Env}{en:Array DictEntry}{k:Nat}(hk:env.scope.kind=.function)(f:env.frame=some h.objs.size)(hn:sL<h.objs.size):FrAt (h.push ⟨.type "frame",none,.dict en k,#[]⟩) env:=
 .mk _ _ (by rw[hk];exact nofun) f (Heap.get?_push_size _ rfl) (HP hn)
theorem Fs.deeper {A:Around}{h:Heap}{env:Env}(f:FrAt h env):Fs A h→Fs (A.deeper env) h
 |.mk l e a=>.mk (env::l) (congrArg (Option.map (env::·)) e) λx m=>(List.mem_cons.mp m).elim (λq=>q▸f) (a x)
structure At (c:Cx) (n:Nat) (A:Around) (W:Wd) (hp:List O) (s:Shared):Prop where
 room:Room n A
 rel:Rel c.P W hp s.heap
 kin:∀ a o,c.K.lookup a=some o→W.fz a=some o
 tk:0<s.toks
 fs:Fs A s.heap
theorem At.old {c:Cx}{n:Nat}{A:Around}{W:Wd}{hp:List O}{s:Shared}(z:At c n A W hp s):sL<s.heap.objs.size:=c.top.old.elim λo e=>Heap.lt_size (z.rel.fz _ _ (z.kin _ _ e))
noncomputable abbrev Kp {α β:Type}(M:Model)(A:Around)(k:α→Sem β)(Q:β→Shared→Prop)(E:Value→Shared→Prop):α→Shared→Prop:=λa s=>wpAny M A (k a) Q E s
theorem bK {α β:Type}{M:Model}{A:Around}{m:Sem α}{k:α→Sem β}{Q:β→Shared→Prop}{E:Value→Shared→Prop}{s:Shared}(h:wpAny M A m (Kp M A k Q E) E s):wpAny M A (m >>= k) Q E s:=wpAny_bind h
section
variable {c:Cx}{α β γ:Type}{RR:RT β α}{A:Around}{n:Nat}{W W':Wd}{hp hp' hp'':List O}{s s' s'':Shared}{a:α}{b:β}
theorem Post.later (l:Lat W hp s W' hp' s'):Post c RR W' hp' s' b hp'' a s''→Post c RR W hp s b hp'' a s''
 |.mk W2 r l2 x=>.mk W2 r (l.trans l2) x
theorem Post.here (z:At c n A W hp s)(x:RR W b a):Post c RR W hp s b hp a s:=.mk W z.rel (.refl ..) x
theorem Post.tok {t:Nat}(z:At c n A W hp s)(x:RR W b a):Post c RR W hp s b hp a {s with toks:=t}:=.mk W z.rel ⟨.refl ..,.refl _,rfl⟩ x
theorem At.le0 (z:At c n A W hp s):(W0 c.K).le W:=⟨Nat.zero_le _,λ_ q=>absurd q (Nat.not_lt_zero _),z.kin⟩
theorem At.In (z:At c n A W hp s):c.K.In s.heap:=λa o e=>z.rel.fz a o (z.kin a o e)
theorem At.nolimit (z:At c n A W hp s):s.heap.NoLimit:=(by rcases c.top.lim with⟨o,es,ep,a,b,k,d⟩;exact⟨λy=>nsFind es y,⟨o,es,ep,z.In _ _ a,b,k,λ_=>rfl⟩,d⟩)
theorem At.next (z:At c n A W hp s)(l:Lat W hp s W' hp' s')(r:Rel c.P W' hp' s'.heap)(t:s.toks≤s'.toks):At c n A W' hp' s':=⟨z.room,r,λa o e=>l.le.fz a o (z.kin a o e),A6 z.tk t,z.fs.ext l.e⟩
theorem At.less {m:Nat}(z:At c n A W hp s)(l:m≤n):At c m A W hp s:=⟨z.room.less l,z.rel,z.kin,z.tk,z.fs⟩
theorem At.to {m:Nat}{B:Around}(z:At c n A W hp s)(l:Room m B)(f:Fs B s.heap):At c m B W hp s:=⟨l,z.rel,z.kin,z.tk,f⟩
theorem go {m:Sem α}{Z:α→Shared→Prop}(z:At c n A W hp s)(h:c.wp A m (Post c RR W hp s b hp') s)(k:∀ W' a s',At c n A W' hp' s'→Lat W hp s W' hp' s'→RR W' b a→Z a s'):c.wp A m Z s:=
 wpAny_with_toks (A7 s.toks) (wpAny_mono h (λa s' p t=>(by rcases p with⟨W',r,l,x⟩;exact k W' a s' (z.next l r t) l x)) λ_ _ x=>x.elim)
end
structure Fx where
 fr:Nat
 cs:List (Nm×Nat)
 own:Bool
structure FrR (W:Wd) (F:Fx) (env:Env):Prop where
 lt:F.fr<W.n
 loc:env.locals=W.ρ F.fr
 cel:∀ x l,lk F.cs x=some l→l<W.n∧env.cells.lookup (st x)=some (W.ρ l)
 kind:env.scope.kind=.function
 glob:env.globals=mainGlobals
 blt:env.builtins=builtinsNs
theorem FrR.mono {W W':Wd}{F:Fx}{env:Env}(h:W.le W')(x:FrR W F env):FrR W' F env:=
 ⟨A6 x.lt h.n,x.loc.trans (h.ρ _ x.lt).symm,λy l e=>have q:=x.cel y l e;⟨A6 q.1 h.n,q.2.trans (congrArg some (h.ρ _ q.1).symm)⟩,x.kind,x.glob,x.blt⟩
noncomputable abbrev aH:=List (Str×NameKind)
structure AtF (c:Cx) (sc:aH) (n:Nat) (F:Fx) (hp:List O) (A:Around) (W:Wd) (s:Shared) (env:Env):Prop where
 a:At c n A W hp s
 f:FrR W F env
 sc:env.scope.names=sc
 top:F.own=true→∃ l,A.frames=some (env::l)
noncomputable def Run (c:Cx)(sc:aH)(n:Nat)(F:Fx)(hp:List O){α β:Type}(t:Env→Sem α)(RR:RT β α)(b:β)(hp':List O):Prop:=
 ∀ A W s env,AtF c sc n F hp A W s env→c.wp A (t env) (Post c RR W hp s b hp') s
section
variable {c:Cx}{sc:aH}{n:Nat}{F:Fx}{hp hp1:List O}{A:Around}{W W':Wd}{s s':Shared}{env:Env}{α β:Type}{t:Env→Sem α}{RR:RT β α}{b:β}
theorem AtF.next (z:AtF c sc n F hp A W s env)(l:Lat W hp s W' hp1 s')(a:At c n A W' hp1 s'):AtF c sc n F hp1 A W' s' env:=⟨a,z.f.mono l.le,z.sc,z.top⟩
theorem Run.go (h:Run c sc n F hp t RR b hp1)(z:AtF c sc n F hp A W s env){Z:α→Shared→Prop}(k:∀ W1 u s1,AtF c sc n F hp1 A W1 s1 env→Lat W hp s W1 hp1 s1→RR W1 b u→Z u s1):c.wp A (t env) Z s:=
 Tk.go z.a (h A W s env z) λW1 u s1 a l x=>k W1 u s1 (z.next l a) l x
end
end
section
noncomputable def O.frE:O→Option (List (Nm×V))
 |.fr es=>some es
 |_=>none
noncomputable def O.nsE:O→Option (List (Nm×V))
 |.ns es=>some es
 |_=>none
noncomputable def O.celE:O→Option (Option V)
 |.cel v=>some v
 |_=>none
noncomputable def O.insE:O→Option (Nat×Nat)
 |.ins c d=>some (c,d)
 |_=>none
noncomputable def O.lstE:O→Option (List V)
 |.lst xs=>some xs
 |_=>none
noncomputable def O.lsE:O→Option (List V)
 |.lst xs=>some xs
 |.dls ds=>some (ds.map .dat)
 |_=>none
noncomputable def O.dlE:O→Option (List D)
 |.dls ds=>some ds
 |_=>none
noncomputable def O.tupE:O→Option (List V)
 |.tup xs=>some xs
 |_=>none
theorem m4 {hp:List O}{l:Nat}{es:List (Nm×V)}(e:hp[l]?.bind O.frE=some es):Lv hp l (.fr es):=(aK e).elim λo q=>⟨q.1.trans (by cases o <;>first|exact congrArg (λz=>some (O.fr z)) (A9 q.2)|exact nomatch q.2),rfl⟩
theorem fZ {hp:List O}{l:Nat}{es:List (Nm×V)}(e:hp[l]?.bind O.nsE=some es):Lv hp l (.ns es):=(aK e).elim λo q=>⟨q.1.trans (by cases o <;>first|exact congrArg (λz=>some (O.ns z)) (A9 q.2)|exact nomatch q.2),rfl⟩
theorem Bq {hp:List O}{l:Nat}{v:Option V}(e:hp[l]?.bind O.celE=some v):Lv hp l (.cel v):=(aK e).elim λo q=>⟨q.1.trans (by cases o <;>first|exact congrArg (λz=>some (O.cel z)) (A9 q.2)|exact nomatch q.2),rfl⟩
theorem NJ {hp:List O}{l:Nat}{z:Nat×Nat}(e:hp[l]?.bind O.insE=some z):Lv hp l (.ins z.1 z.2):=(aK e).elim λo q=>⟨q.1.trans (by cases o <;>first|exact congrArg (λz:Nat×Nat=>some (O.ins z.1 z.2)) (A9 q.2)|exact nomatch q.2),rfl⟩
theorem dY {hp:List O}{l:Nat}{xs:List V}(e:hp[l]?.bind O.lstE=some xs):Lv hp l (.lst xs):=(aK e).elim λo q=>⟨q.1.trans (by cases o <;>first|exact congrArg (λz=>some (O.lst z)) (A9 q.2)|exact nomatch q.2),rfl⟩
theorem lV {hp:List O}{l:Nat}{xs:List D}(e:hp[l]?.bind O.dlE=some xs):Lv hp l (.dls xs):=(aK e).elim λo q=>⟨q.1.trans (by cases o <;>first|exact congrArg (λz=>some (O.dls z)) (A9 q.2)|exact nomatch q.2),rfl⟩
theorem NK {hp:List O}{l:Nat}{xs:List V}(e:hp[l]?.bind O.tupE=some xs):Lv hp l (.tup xs):=(aK e).elim λo q=>⟨q.1.trans (by cases o <;>first|exact congrArg (λz=>some (O.tup z)) (A9 q.2)|exact nomatch q.2),rfl⟩
structure Rs (β:Type) (T:β→List O→Prop) where
 v:β
 hp:List O
 g:Bool
 ok:g=true→T v hp
noncomputable def tk {α β:Type}(x:Option α)(f:∀ a,x=some a→Option β):Option β:=match x,f with
 |some a,f=>f a rfl
 |none,_=>none
noncomputable def AR {α β:Type}(x:Option α)(f:∀ a,x=some a→β)(n:x=none→β):β:=match x,f,n with
 |some a,f,_=>f a rfl
 |none,_,n=>n rfl
noncomputable abbrev qT:RT Unit Unit:=λ_ _ _=>True
noncomputable abbrev Br:RT Bool Bool:=λ_ b a=>a=b
noncomputable abbrev Cx.VT (c:Cx):RT V Value:=VR c.P
noncomputable def Bs (c:Cx)(n:Nat)(hp:List O){α β:Type}(f:Value→Sem α)(RR:RT β α)(a:V)(b:β)(hp':List O):Prop:=∀ A W s u,At c n A W hp s→VR c.P W a u→c.wp A (f u) (Post c RR W hp s b hp') s
noncomputable def a9 (c:Cx)(n:Nat)(hp:List O){α β:Type}(f:Value→Value→Sem α)(RR:RT β α)(a a':V)(b:β)(hp':List O):Prop:=
 ∀ A W s u u',At c n A W hp s→VR c.P W a u→VR c.P W a' u'→c.wp A (f u u') (Post c RR W hp s b hp') s
noncomputable def ZT (c:Cx)(n:Nat)(hp:List O){α β:Type}(f:List Value→Sem α)(RR:RT β α)(as:List V)(b:β)(hp':List O):Prop:=∀ A W s us,At c n A W hp s→VRs c.P W as us→c.wp A (f us) (Post c RR W hp s b hp') s
noncomputable def AS (F:Fx)(x:Nm)(hp:List O):Option V:=(hp[F.fr]?.bind O.frE).bind λes=>lk es x
noncomputable def e7 (F:Fx)(x:Nm)(v:V)(hp:List O):Option (List O):=(hp[F.fr]?.bind O.frE).map λes=>hp.set F.fr (.fr (pt es x v))
noncomputable def HQ (F:Fx)(x:Nm)(hp:List O):Option V:=(lk F.cs x).bind λl=>(hp[l]?.bind O.celE).bind id
noncomputable def HR (F:Fx)(x:Nm)(v:V)(hp:List O):Option (List O):=(lk F.cs x).bind λl=>(hp[l]?.bind O.celE).map λ_=>hp.set l (.cel (some v))
noncomputable def HS (G:Gam)(x:Nm):Option V:=match lk G.glob x with
 |some v=>some v
 |none=>lk G.blts x
theorem lW (c:Value)(d:Option Addr)(sl:Array (Option Value))(name:Str)(hsh:Int)(key v:Value)(es:List DictEntry)(n:Nat):
  Obj.putName name hsh key v ⟨c,d,.dict es.toArray n,sl⟩=⟨c,d,.dict (putL name hsh key v es).toArray (putN name es n),sl⟩:=by
 rw[Obj.putName_eq]
 unfold Obj.putNameByArray putN
 have h1:=putL_find name hsh key v es
 have h2:=any_of_findIdx name es
 simp only[List.findIdx?_toArray]
 cases h:List.findIdx? (λx=>x.key.isStr name) es with
 |none=>rw[h]at h1 h2;rw[← h2,← h1];simp
 |some i=>rw[h]at h1 h2;rw[← h2,← h1];simp
section
variable {c:Cx}{n:Nat}{A:Around}{W:Wd}{hp:List O}{s:Shared}{sc:aH}{F:Fx}{env:Env}{x:Nm}{v:V}{u:Value}
theorem ER.noref {es:List (Nm×V)}{en:List DictEntry}(h:ER c.P W es en):en.any (·.refKey)=false:=List.any_eq_false.mpr λe m=>(by rcases h.keys e m with⟨_,_,q⟩;exact by unfold DictEntry.refKey;rw[q];exact A8)
theorem ER.ns {es:List (Nm×V)}{en:List DictEntry}(h:ER c.P W es en){H:Heap}{a:Addr}{cl:Value}{d:Option Addr}{k:Nat}{sl:Array (Option Value)}(g:H.get? a=some ⟨cl,d,.dict en.toArray k,sl⟩):H.Ns a λy=>nsFind en.toArray y:=⟨_,en.toArray,k,g,rfl,h.skeys,λ_=>rfl⟩
theorem qU {l:Nat}{o o':O}{B:Around}{es:List (Nm×V)}{cl:Value}{d:Option Addr}{en:List DictEntry}{k:Nat}{sl:Array (Option Value)}(z:At c n A W hp s)(lv:Lv hp l o)(g:s.heap.get? (W.ρ l)=some ⟨cl,d,.dict en.toArray k,sl⟩)(hE:ER c.P W es en)(hv:VR c.P W v u)
  (ho:∀ en' k',ER c.P W (pt es x v) en'→OR c.P W o' ⟨cl,d,.dict en'.toArray k',sl⟩):c.wp B (nsSet (W.ρ l) (st x) u) (Post c qT W hp s () (hp.set l o')) s:=by
 refine wpAny_bind (wpAny_bind (wpAny_askSetting (wpAny_pure (wpAny_bind (wpAny_mkText (wpAny_bind (wpAny_loadPart g ?_)))))))
 dsimp only
 have hc:aRefKeyMayBeTheName (st x) en.toArray=false:=by rw[aRefKeyMayBeTheName_at,show en.toArray.any (·.refKey)=false from List.any_toArray.trans hE.noref,Bool.and_false]
 rw[hc]
 have q:=z.rel.update (l:=l) (o:=o) (o':=o') (f:=Obj.putName (st x) (PyData.keyHash c.w.params (st x)) (.str (st x) s.toks) u) lv g (by rw[lW];exact ho _ _ (hE.put hv)) λq=>by rw[lW];exact q
 exact wpAny_updatePart g (.mk W q.1 (.of q.2) trivial)
theorem Lz (z:AtF c sc n F hp A W s env)(hk:env.kindOf (st x)=some .local)(e:AS F x hp=some v):c.wp A (loadName env (st x)) (Post c c.VT W hp s v hp) s:=
 (aK e).elim λes q=>(by rcases z.a.rel.fr (m4 q.1)with⟨_,en,k,g,d⟩;exact(d.find q.2).elim λu r=>wpAny_loadName_local z.f.kind hk (z.f.loc.symm▸d.ns g) ((m1 _ _).trans r.1) (.here z.a r.2))
theorem SM (z:AtF c sc n F hp A W s env)(hk:env.kindOf (st x)=some .cell∨(env.kindOf (st x)=some .free∧(st x==("__classdict__" :Str))=false))(e:HQ F x hp=some v):c.wp A (loadName env (st x)) (Post c c.VT W hp s v hp) s:=
 (aK e).elim λl q=>(aK q.2).elim λr y=>match r,y with
 |some _,y=>match z.a.rel.cel (Bq y.1)with
  |.mk none _ d=>d.elim
  |.mk (some u) g d=>have h:=(z.f.cel x l q.1).2;have p:=Post.here z.a (A9 y.2▸d)
   hk.elim (λhk=>wpAny_loadName_cell z.f.kind hk h ⟨_,g,rfl⟩ p) λhk=>wpAny_loadName_free z.f.kind hk.1 h ⟨_,g,rfl⟩ p hk.2
theorem qV {hp':List O}(z:AtF c sc n F hp A W s env)(hk:env.kindOf (st x)=some .local)(hv:VR c.P W v u)(e:e7 F x v hp=some hp'):c.wp A (storeName env (st x) u) (Post c qT W hp s () hp') s:=
 (bA e).elim λes q=>have lv:=m4 q.1;match z.a.rel.fr lv with
 |.mk cl en k g d=>by
  rw[storeName_local hk (by rw[z.f.kind];rfl),z.f.loc,← q.2]
  exact qU z.a lv g d hv λen' k' d'=>.mk cl en' k' d'
theorem Bt {hp':List O}(z:AtF c sc n F hp A W s env)(hk:env.kindOf (st x)=some .cell)(hv:VR c.P W v u)(e:HR F x v hp=some hp'):c.wp A (storeName env (st x) u) (Post c qT W hp s () hp') s:=
 (aK e).elim λl q=>(bA q.2).elim λr y=>have lv:=Bq y.1;match z.a.rel.cel lv with
 |.mk r g d=>by
  unfold storeName
  rw[hk,z.f.kind]
  show c.wp A (cellOf env (st x) >>= λl=>cellSet l (some u)) _ _
  refine bK (wpAny_cellOf (z.f.cel x l q.1).2 ?_)
  unfold cellSet
  have t:=z.a.rel.update (o':=.cel (some v)) (f:=λo=>{o with data:=.cell (some u)}) lv g (.mk (some u) hv)
  rw[← y.2]
  exact bK (wpAny_load g (wpAny_update g (.mk W t.1 (.of t.2) trivial)))
theorem SN (z:AtF c sc n F hp A W s env)(hk:env.kindOf (st x)=some .globalImplicit)(e:HS c.G x=some v):c.wp A (loadName env (st x)) (Post c c.VT W hp s v hp) s:=by
 have key:c.wp A (loadGlobal env (st x)) (Post c c.VT W hp s v hp) s:=match c.top.main with
  |.mk o es ep l d k q=>by
   have hN:s.heap.Ns env.globals λy=>nsFind es y:=z.f.glob ▸ ⟨o,es,ep,z.a.In _ _ l,d,k,λ_=>rfl⟩
   unfold HS at e
   cases hg:lk c.G.glob x with
   |some v'=>
    rw[hg]at e
    exact(q.1 x v' hg).elim λu r=>loadGlobal_global hN r.1 (.here z.a (A9 e▸r.2.mono z.a.le0))
   |none=>
    rw[hg]at e
    exact match c.top.blt with
     |.mk o' es' ep' l' d' k' q'=>(q' x v e).elim λu r=>loadGlobal_builtin hN (q.2 x v e) (z.f.blt ▸ ⟨o',es',ep',z.a.In _ _ l',d',k',λ_=>rfl⟩:s.heap.Ns env.builtins λy=>nsFind es' y) r.1 (.here z.a (r.2.mono z.a.le0))
 rw[loadName_read z.f.kind hk];exact key
structure Ins where
 c:Nat
 d:Nat
 es:List (Nm×V)
noncomputable def sM (hp:List O)(l:Nat):Option Ins:=(hp[l]?.bind O.insE).bind λp=>(hp[p.2]?.bind O.nsE).map λes=>⟨p.1,p.2,es⟩
inductive InsAt (P:Params) (W:Wd) (h:Heap) (hp:List O) (l:Nat) (I:Ins):Prop
 |mk (en:List DictEntry) (k:Nat) (lv:Lv hp I.d (.ns I.es)) (nd:(I.es.map (·.1)).Nodup) (E:ER P W I.es en) (g:h.get? (W.ρ I.d)=some ⟨.type "dict",none,.dict en.toArray k,#[]⟩)
  (a:PySem.W.InstAt h (W.ρ l) ⟨.ref I.c,some (W.ρ I.d),.plain,#[]⟩ I.c (some ⟨.type "dict",none,.dict en.toArray k,#[]⟩))
theorem i7 {P:Params}{h:Heap}(R:Rel P W hp h){l:Nat}{I:Ins}(e:sM hp l=some I):InsAt P W h hp l I:=
 (aK e).elim λp q=>(bA q.2).elim λes y=>have lv:=fZ y.1;y.2▸match R.ins (NJ q.1),R.ns lv with
 |⟨g,_⟩,.mk en k g' d nd=>.mk en k lv nd d g' ⟨g,rfl,rfl,g'⟩
noncomputable def qW:List Cl→Nat→Option Cl
 | [],_=>none
 |c::r,a=>match Nat.beq c.adr a with
  |true=>some c
  |false=>qW r a
theorem Bu:∀ {l:List Cl} {a:Nat} {cl:Cl},qW l a=some cl→cl∈l∧cl.adr=a
 |c::r,a,cl,e=>by
  have e:(bif Nat.beq c.adr a then some c else qW r a)=some cl:=e
  cases q:Nat.beq c.adr a with
  |true=>rw[q]at e;exact A9 e ▸ ⟨.head _,B0 q⟩
  |false=>rw[q]at e;exact(Bu (l:=r) e).imp (.tail _) id
noncomputable def V.plain:V→Bool
 |.blt _=>false
 |_=>true
theorem D.handed {P:Params}{fz:Addr→Option Obj}{d:D}{u:Value}(h:DR P fz d u):handedIn u=true:=by
 cases d with
 |non=>exact(h:_=_)▸rfl
 |boo _=>exact(h:_=_)▸rfl
 |_=>cases h;rfl
theorem V.plain_handed {P:Params}{v:V}{u:Value}(p:v.plain=true)(h:VR P W v u):handedIn u=true:=by
 cases v with
 |dat _=>exact D.handed h
 |ref _=>exact h.2▸rfl
 |top _=>exact(h:_=_)▸rfl
 |blt _=>cases p
 |typ _=>exact(h:_=_)▸rfl
 |_=>cases h;rfl
theorem ER.look {es:List (Nm×V)}{en:List DictEntry}(hE:ER c.P W es en)(cl:Value)(d:Option Addr)(k:Nat)(sl:Array (Option Value))(r:Option Value)(e:lU (st x) en=r):lookIn (st x) ⟨cl,d,.dict en.toArray k,sl⟩=some r:=by
 have q:=gZ (st x) en
 unfold lookIn
 dsimp only
 cases y:en.find? (λe=>e.key.isStr (st x))with
 |some e'=>rw[y]at q;exact congrArg some (q.trans e)
 |none=>
  rw[y]at q
  dsimp only
  rw[hE.noref]
  exact congrArg some (q.trans e)
noncomputable def HT:List TI→Nat→Option TI
 | [],_=>none
 |t::r,a=>match Nat.beq t.adr a with
  |true=>some t
  |false=>HT r a
theorem Bv:∀ {l:List TI} {a:Nat} {t:TI},HT l a=some t→t∈l∧t.adr=a
 |x::r,a,t,e=>by
  have e:(bif Nat.beq x.adr a then some x else HT r a)=some t:=e
  cases q:Nat.beq x.adr a with
  |true=>rw[q]at e;cases e;exact⟨.head _,B0 q⟩
  |false=>rw[q]at e;exact(Bv e).imp (.tail _) id
inductive TopAt (P:Params) (W:Wd) (h:Heap) (a:Nat) (t:TI):Prop
 |mk (en:List DictEntry) (k:Nat) (E:ER P W t.es en) (a:PySem.W.InstAt h a ⟨.ref t.c,some t.d,.plain,#[]⟩ t.c (some ⟨.type "dict",none,.dict en.toArray k,#[]⟩))
theorem u6 {c:Cx}{n:Nat}{A:Around}{W:Wd}{hp:List O}{s:Shared}(z:At c n A W hp s){a:Nat}{t:TI}(e:HT c.G.tops a=some t):TopAt c.P W s.heap a t:=
 have q:=Bv e;(by rcases c.top.tops t q.1 with⟨en,k,E,g,x⟩;exact .mk en k (E.mono z.le0) ⟨z.In _ _ (q.2▸x),rfl,rfl,z.In _ _ g⟩)
theorem Bw {c:Cx}{a:Nat}{cl:Cl}(e:qW c.G.cls a=some cl):ClOk c.P c.K a cl:=have q:=Bu e;q.2▸c.top.cls cl q.1
section
variable {l:Nat}{I:Ins}{cl:Cl}{expr:Bool}(z:At c n A W hp s)(h:VR c.P W (.ref l) u)(e:sM hp l=some I)(e2:qW c.G.cls I.c=some cl)
include z h e e2
theorem HU {y:V}(e3:lk I.es x=some y)(g:(aO x cl.fields&&y.plain)=true):c.wp A (getAttr u (st x) expr) (Post c c.VT W hp s y hp) s:=match i7 z.rel e,Bw e2,A0 g with
 |.mk en k lv nd E gd a,C,⟨g1,g2⟩=>(E.find e3).elim λw r=>by
  rw[show u=.ref (W.ρ l)from h.2]
  exact get_value z.In a (plainGet_of C.get).1 (findObj_own C.dict (C.fields x g1) rfl (E.look _ _ _ _ _ r.1)) (V.plain_handed g2 r.2) (.tok z r.2)
theorem HV {f:Nat}(e3:lk I.es x=none)(e4:lk cl.meths x=some f):c.wp A (getAttr u (st x) expr) (Post c c.VT W hp s (.mth f l) hp) s:=match i7 z.rel e,Bw e2 with
 |.mk en k lv nd E gd a,C=>by
  rw[show u=.ref (W.ρ l)from h.2]
  have m:=C.meths x f e4
  have y:=z.rel.allocZ (ob:=methodObj (.ref f) (.ref (W.ρ l))) rfl
  exact get_bind z.In a (plainGet_of C.get).1 (findObj_fn C.dict m.find m.get m.takes m.copied (E.look _ _ _ _ _ (E.miss e3))) (plainGet_of C.get).2 (wpAny_call (fn_get (s:={s with toks:=s.toks+1}) z.In m.type (handed_on rfl (.mk _ y.1 (.of y.2) (.mk _ h.1 (if_pos rfl))))))
theorem HW {y:V}(e3:lk I.es x=none)(e4:lk cl.consts x=some y):c.wp A (getAttr u (st x) expr) (Post c c.VT W hp s y hp) s:=match i7 z.rel e,Bw e2 with
 |.mk en k lv nd E gd a,C=>match C.consts x y e4 with
  |.mk w f1 f2 f3 f4 f5=>by
   rw[show u=.ref (W.ρ l)from h.2]
   exact get_value z.In a (plainGet_of C.get).1 (findObj_cls C.dict f1 f2 f3 f4 (E.look _ _ _ _ _ (E.miss e3))) f3 (.tok z (f5.mono z.le0))
theorem HX {v:V}{w:Value}(hv:VR c.P W v w)(g:(aO x cl.fields&&Nat.ble I.es.length 100)=true):c.wp A (setAttr u (st x) w) (Post c qT W hp s () (hp.set I.d (.ns (pt I.es x v)))) s:=match i7 z.rel e,Bw e2,A0 g with
 |.mk en k lv nd E gd a,C,⟨g1,g2⟩=>by
  rw[show u=.ref (W.ρ l)from h.2]
  obtain⟨cd,hcd,hd'⟩:=any_some C.dict
  refine set_plain z.In a C.set (osa_open (s:={s with toks:=s.toks+1}) (r:=none) z.In a C.over (by unfold takerIn;rw[C.fields x g1];rfl) λb=>?_)
  refine wpAny_bind (wpAny_pure (wpAny_bind (wpAny_bind (wpAny_loadPart a.at_ (wpAny_bind ((looks_clsIn z.In hcd).at ?_))))))
  rw[hd']
  refine wpAny_pure (a:=some (W.ρ I.d)) (wpAny_bind (wpAny_pure (wpAny_bind ?_)))
  refine wpAny_mono (qU (s:={s with toks:=s.toks+1}) (o':=.ns (pt I.es x v)) ⟨z.room,z.rel,z.kin,Nat.succ_pos _,z.fs⟩ lv gd E hv λen' k' E'=>⟨g6 x v nd,.mk en' k' E'⟩) (λ_ s' p=>?_) λ_ _ f=>f.elim
  match p with
  |.mk W' R' L' _=>
   have lv':Lv (hp.set I.d (.ns (pt I.es x v))) I.d (.ns (pt I.es x v)):=⟨List.getElem?_set_self lv.lt,rfl⟩
   match R'.ns lv' with
   |.mk en' k' g' E' _=>
    rw[L'.le.ρ _ (z.rel.lt lv)]at g'
    refine wpAny_bind (wpAny_lookBehind g' (pastItsLine_dict (by rw[List.size_toArray,R2.len E',sizeLine_eq];have:=u0 x v I.es;have:=A3 g2;lia)) ?_)
    exact wpAny_pure (.mk W' R' ⟨L'.e,L'.g,L'.o⟩ trivial)
end
theorem HY {c:Cx}{n:Nat}{A:Around}{W:Wd}{hp:List O}{s:Shared}{u:Value}{x:Nm}{a:Nat}{t:TI}{cl:Cl}{expr:Bool}{y:V}(z:At c n A W hp s)(h:VR c.P W (.top a) u)(e:HT c.G.tops a=some t)(e2:qW c.G.cls t.c=some cl)(e3:lk t.es x=some y)(g:(aO x cl.fields&&y.plain)=true):c.wp A (getAttr u (st x) expr) (Post c c.VT W hp s y hp) s:=match u6 z e,Bw e2,A0 g with
 |.mk en k E a,C,⟨g1,g2⟩=>(E.find e3).elim λw r=>by
  rw[show u=.ref _ from h]
  exact get_value z.In a (plainGet_of C.get).1 (findObj_own C.dict (C.fields x g1) rfl (E.look _ _ _ _ _ r.1)) (V.plain_handed g2 r.2) (.tok z r.2)
noncomputable def SO (c:Cx)(n:Nat)(hp:List O):(v:V)→(x:Nm)→Option (Rs V λy hp'=>∀ expr,Bs c n hp (λu=>getAttr u (st x) expr) c.VT v y hp')
 |.ref l,x=>tk (sM hp l) λI e=>tk (qW c.G.cls I.c) λcl e2=>AR (lk I.es x) (λy e3=>some ⟨y,hp,aO x cl.fields&&y.plain,λg _ _ _ _ _ z h=>HU z h e e2 e3 g⟩)
   λe3=>AR (lk cl.meths x) (λf e4=>some ⟨.mth f l,hp,true,λ_ _ _ _ _ _ z h=>HV z h e e2 e3 e4⟩) λ_=>tk (lk cl.consts x) λy e4=>some ⟨y,hp,true,λ_ _ _ _ _ _ z h=>HW z h e e2 e3 e4⟩
 |.top a,x=>tk (HT c.G.tops a) λt e=>tk (qW c.G.cls t.c) λcl e2=>tk (lk t.es x) λy e3=>some ⟨y,hp,aO x cl.fields&&y.plain,λg _ _ _ _ _ z h=>HY z h e e2 e3 g⟩
 |_,_=>none
noncomputable def SP (c:Cx)(n:Nat)(hp:List O):(v:V)→(x:Nm)→(y:V)→Option (Rs Unit λ_ hp'=>a9 c n hp (λu w=>setAttr u (st x) w) qT v y () hp')
 |.ref l,x,y=>tk (sM hp l) λI e=>tk (qW c.G.cls I.c) λcl e2=>some ⟨(),hp.set I.d (.ns (pt I.es x y)),aO x cl.fields&&Nat.ble I.es.length 100,λg _ _ _ _ _ z h hv=>HX z h e e2 hv g⟩
 |_,_,_=>none
end
end
section
noncomputable def m5:List Nm→List (Nm×Nat)→List O→List (Nm×Nat)×List O
 | [],cs,hp=>(cs,hp)
 |x::r,cs,hp=>m5 r ((x,hp.length)::cs) (hp++[.cel none])
noncomputable def m6:NameKind→Bool
 |.cell=>true
 |_=>false
theorem AT:∀ k:NameKind,(k==.cell)=m6 k:=by intro k;cases k <;>rfl
noncomputable def cS:aH→List Nm
 | []=>[]
 |p::r=>match m6 p.2 with
  |true=>p.1.cps.toList::cS r
  |false=>cS r
theorem aI (x:Str):st x.cps.toList=x:=congrArg Str.mk (Array.toArray_toList ..)
noncomputable def xK (F:Fx):List Nm→List V→List O→Option (List O)
 |x::xs,v::vs,hp=>(match lk F.cs x with
  |some _=>HR F x v hp
  |none=>e7 F x v hp).bind λhp1=>xK F xs vs hp1
 | [],[],hp=>some hp
 |_,_,_=>none
theorem CelR.mono {W W':Wd}{cs:List (Nm×Nat)}{ca:List (Str×Addr)}(h:W.le W')(x:CelR W cs ca):CelR W' cs ca:=λy l e=>have q:=x y l e;⟨A6 q.1 h.n,q.2.trans (congrArg some (h.ρ _ q.1).symm)⟩
theorem qX {α:Type}{y x:Nm}{a:α}{r:List (Nm×α)}{b:α}(e:lk ((y,a)::r) x=some b):(y=x∧a=b)∨(y≠x∧lk r x=some b):=by
 have e:(bif nb y x then some a else lk r x)=some b:=e
 cases q:nb y x with
 |true=>rw[q]at e;exact .inl ⟨b9 q,A9 e⟩
 |false=>rw[q]at e;exact .inr ⟨pN q,e⟩
section
variable {c:Cx}{A:Around}{n:Nat}
theorem jN (f:Str×NameKind→List (Str×Addr)→Sem (ForInStep (List (Str×Addr))))
  (hf:∀ name kind cells,f (name,kind) cells=if kind==.cell then(do let a ← alloc {cls:=.type "cell",data:=.cell none};pure (.yield ((name,a)::cells)))else pure (.yield cells)):
  ∀ (names:aH) (acc:List (Str×Addr)) (cs:List (Nm×Nat)) (hp:List O) (W:Wd) (s:Shared) {Q:List (Str×Addr)→Shared→Prop},Rel c.P W hp s.heap→CelR W cs acc→
   (∀ W' ca s',Rel c.P W' (m5 (cS names) cs hp).2 s'.heap→Lat W hp s W' (m5 (cS names) cs hp).2 s'→CelR W' (m5 (cS names) cs hp).1 ca→Q ca s')→c.wp A (forIn names acc f) Q s
 | [],acc,cs,hp,W,s,_,R,C,h=>by rw[List.forIn_nil];exact wpAny_pure (h W acc s R (.refl ..) C)
 |(name,kind)::r,acc,cs,hp,W,s,Q,R,C,h=>by
  rw[List.forIn_cons,hf,AT]
  cases hk:m6 kind with
  |true=>
   have e0:cS ((name,kind)::r)=name.cps.toList::cS r:=by
    show(match m6 kind with|true=>_|false=>_)=_
    rw[hk]
   rw[e0]at h
   have z:=R.alloc (o:=.cel none) (ob:=⟨.type "cell",none,.cell none,#[]⟩) (.mk none trivial)
   refine bK (bK (wpAny_alloc (wpAny_pure (jN f hf r _ ((name.cps.toList,hp.length)::cs) (hp++[O.cel none]) _ {s with heap:=s.heap.push ⟨.type "cell",none,.cell none,#[]⟩} z.1 (λx l e=>?_) λW' ca s' R' L' C'=>h W' ca s' R' ((Lat.of (t:=s.toks) z.2).trans L') C'))))
   rcases qX e with⟨e1,e2⟩|⟨e1,e2⟩
   ·subst e2
    refine⟨R.len▸Nat.lt_succ_self _,?_⟩
    rw[R.push_at,← e1,aI,List.lookup_cons,beq_self_eq_true]
   ·have q:=C.mono (Wd.le_push W s.heap.objs.size) x l e2
    exact⟨q.1,by rw[List.lookup_cons,beq_eq_false_iff_ne.mpr λe:st x=name=>e1 (by rw[← e];rfl)];exact q.2⟩
  |false=>
   have e0:cS ((name,kind)::r)=cS r:=by
    show(match m6 kind with|true=>_|false=>_)=_
    rw[hk]
   rw[e0]at h
   exact bK (wpAny_pure (jN f hf r acc cs hp W s R C h))
noncomputable def xL (F:Fx)(x:Nm):NameKind:=match lk F.cs x with
 |some _=>.cell
 |none=>.local
theorem qY {sc:aH}{F:Fx}{env:Env}(f:Str×Value→PUnit→Sem (ForInStep PUnit))(hf:∀ n v u,f (n,v) u=(do storeName env n v;pure (.yield ⟨⟩))){hp2:List O}{QQ:PUnit→Shared→Prop}:
  ∀ (ps:List Nm) (vs:List V) (vals:List Value) (hp:List O) (W:Wd) (s:Shared),AtF c sc n F hp A W s env→VRs c.P W vs vals→(∀ x∈ps,env.kindOf (st x)=some (xL F x))→xK F ps vs hp=some hp2→
   (∀ W' s',AtF c sc n F hp2 A W' s' env→Lat W hp s W' hp2 s'→QQ ⟨⟩ s')→c.wp A (forIn (m3 ps vals) ⟨⟩ f) QQ s
 | [],[]=>λ_ hp W s z hv _ hb h=>by
  obtain rfl:_=[]:=hv
  show wpAny _ _ (forIn [] _ f) _ _ _
  rw[List.forIn_nil];exact wpAny_pure (h W s (A9 hb▸z) (A9 hb ▸ .refl ..))
 |x::ps,v::vs=>λ_ hp W s z hv hk hb h=>by
  obtain⟨u,r,rfl,hu,hr⟩:=Two.out hv
  show wpAny _ _ (forIn ((st x,u)::m3 ps r) _ f) _ _ _
  rw[List.forIn_cons,hf]
  have hx:=hk x (.head _)
  obtain⟨hp1,e1,hb⟩:=aK hb
  have step:c.wp A (storeName env (st x) u) (Post c qT W hp s () hp1) s:=by
   unfold xL at hx
   cases e:lk F.cs x with
   |some l=>rw[e]at e1 hx;exact Bt z hx hu e1
   |none=>rw[e]at e1 hx;exact qV z hx hu e1
  exact bK (bK (go z.a step λW' _ s' a L _=>wpAny_pure (qY f hf ps vs r hp1 W' s' (z.next L a) (R2.imp (λ_ _=>VR.mono L.le) hr) (λy hy=>hk y (.tail _ hy)) hb λW2 s2 z2 L2=>h W2 s2 z2 (L.trans L2))))
 | [],_::_=>λ_ _ _ _ _ _ _ hb=>nomatch hb
 |_::_,[]=>λ_ _ _ _ _ _ _ hb=>nomatch hb
structure Fn where
 params:List Nm
 dflt:List V
 cells:List Nm
 names:aH
 body:List Stmt
noncomputable def Fn.fill (F:Fn)(args:List V):List V:=args++F.dflt.drop (F.dflt.length - (F.params.length-args.length))
structure FnI (K:Frag) (fd:FuncData) (F:Fn):Prop where
 code:codeIn K fd.code fd.qualname=true
 body:fd.body=.stmts F.body
 clo:fd.closure=[]
 glob:fd.globals=mainGlobals
 blt:fd.builtins=builtinsNs
 co:fd.scope.isCoroutine=false
 gen:fd.scope.isGenerator=false
 kind:fd.scope.kind=.function
 names:fd.scope.names=F.names
 cells:cS F.names=F.cells
 pars:fd.params.args.map (λy=>y.arg.cps.toList)=F.params
 kinds:∀ x∈F.params,F.names.lookup (st x)=some (match aO x F.cells with|true=>.cell|false=>.local)
inductive FnD (P:Params) (K:Frag) (a:Addr) (F:Fn):Prop
 |mk (o:Obj) (fd:FuncData) (at_:K.lookup a=some o) (d:o.data=.func fd) (fn:fnIn K a=true) (i:FnI K fd F) (dv:List Value) (r:VRs P (W0 K) F.dflt dv)
  (bind:∀ (s:Shared) (vals:List Value),K.In s.heap→vals.length≤F.params.length→F.params.length≤vals.length+F.dflt.length→BindsTo s fd ⟨vals,[]⟩ (m3 F.params (vals++dv.drop (F.dflt.length - (F.params.length-vals.length)))))
theorem xM (x:Nm):∀ (cells:List Nm) (cs:List (Nm×Nat)) (hp:List O),(lk (m5 cells cs hp).1 x).isSome=(aO x cells||(lk cs x).isSome)
 | [],_,_=>rfl
 |y::r,cs,hp=>(xM x r _ _).trans (by
  show(aO x r||(match nb y x with|true=>some hp.length|false=>lk cs x).isSome)=((nb y x||aO x r)||_)
  cases nb y x with
  |true=>exact(Bool.or_true _).trans rfl
  |false=>rfl)
noncomputable def sN (F:Fn)(args:List V)(hp:List O):Option (Fx×List O):=
 let z:=m5 F.cells [] (hp++[.fr []])
 (xK ⟨hp.length,z.1,false⟩ F.params (F.fill args) z.2).map λhp1=>(⟨hp.length,z.1,true⟩,hp1)
inductive Fl where|next|brk|cont|ret (v:V)
noncomputable def MA (P:Params)(W:Wd):Fl→Flow→Prop
 |.next,f=>f=.next
 |.brk,f=>f=.brk
 |.cont,f=>f=.cont
 |.ret v,f=>∃ u,f=.ret u∧VR P W v u
noncomputable abbrev Cx.FT (c:Cx):RT Fl Flow:=MA c.P
noncomputable def NN:Fl→Option V
 |.next=>some (.dat .non)
 |.ret v=>some v
 |_=>none
noncomputable def ZU (f:Flow):Value:=match f with
 |.ret v=>v
 |_=>.none
theorem HZ {P:Params}{W:Wd}{fl:Fl}{v:V}{f:Flow}(e:NN fl=some v)(x:MA P W fl f):VR P W v (ZU f):=by
 cases fl with
 |next=>obtain rfl:f=_:=x;exact A9 e▸rfl
 |ret w=>obtain⟨u,rfl,r⟩:=x;exact A9 e▸r
 |_=>cases e
inductive RetOk (p:Value→Shared→Prop) (s:Shared):Result→Prop
 |mk (u:Value) (h:p u s):RetOk p s (.ok (.ret u))
inductive Aa (K:Frag) (f:Nat):List Value→Args→Prop
 |pos {vals:List Value}:Aa K f vals ⟨vals,[]⟩
 |kw {x:Nm} {ks:List Nm} {v:Value} {us:List Value} (h:KwOk K f x ks) (l:us.length=ks.length):Aa K f (v::us) ⟨[v],m3 ks us⟩
structure CallOk (c:Cx) (n f:Nat) (args:List V) (hp:List O) (v:V) (hp':List O):Prop where
 fn:fnIn c.K f=true
 run:∀ A W s vals aa,Aa c.K f vals aa→At c n A W hp s→VRs c.P W args vals→codeAny c.M A (.call (.ref f) aa) (λr s'=>RetOk (Post c c.VT W hp s v hp') s' r) s
theorem pO {a:Nat}{F:Fn}{args:List V}{hp hp1:List O}{X:Fx}{A:Around}{W:Wd}{s:Shared}{vals:List Value}{R:Result→Shared→Prop}(D:FnD c.P c.K a F)(h1:Nat.ble args.length F.params.length=true)(h2:Nat.ble F.params.length (args.length+F.dflt.length)=true)
  (en:sN F args hp=some (X,hp1))(z:At c (n+1) A W hp s)(hv:VRs c.P W args vals){aa:Args}(ha:Aa c.K a vals aa)
  (k:∀ W2 s2 env,AtF c F.names n X hp1 (A.deeper env) W2 s2 env→Lat W hp s W2 hp1 s2→wpAny c.M (A.deeper env) (execs F.body env) (λf s'=>R (.ok (.ret (ZU f))) s') (λe s'=>wpAny c.M (A.deeper env) (leaving env e) (λ_ s''=>R (.error e) s'') (λe' s''=>R (.error e') s'') s') s2):codeAny c.M A (.call (.ref a) aa) R s:=match D with
 |.mk o fd ao d fn I dv dr bind=>by
  have h1:=A3 h1
  have h2:=A3 h2
  rw[← R2.len hv]at h1 h2
  have KI:=z.In
  have bindA:BindsTo s fd aa (m3 F.params (vals++dv.drop (F.dflt.length - (F.params.length-vals.length)))):=match ha with
   |.pos=>bind s vals KI h1 h2
   |.kw (.mk o' fd' at' d' p' bind') l=>by
    cases A9 (ao.symm.trans at')
    cases Data.func.inj (d.symm.trans d')
    have e:=I.pars.symm.trans p'
    rw[e,show dv.drop _=[]from List.drop_eq_nil_of_le (by rw[R2.len dr,B3,B3,l,Nat.sub_self];exact A7 _),B1]
    exact bind' s _ _ KI l
  refine codeAny_call_function z.room.rl (KI _ _ ao) d I.co I.gen I.body (codeRec_of KI I.code) (wpAny_with_toks (A7 s.toks) (bindA _ _ _ _ λ_=>?_))
  rw[I.clo,I.glob,I.blt]
  obtain⟨hp',e1,e2⟩:=bA en
  cases e2
  have hc:=I.cells
  rw[← I.names]at hc
  have hv2:VRs c.P W (F.fill args) (vals++dv.drop (F.dflt.length - (F.params.length-vals.length))):=by
   unfold Fn.fill;rw[← R2.len hv];exact R2.app hv (R2.imp (λ_ _=>VR.mono z.le0) (R2.drop _ dr))
  have kd:∀ x∈F.params,fd.scope.names.lookup (st x)=some (xL ⟨hp.length,(m5 F.cells [] (hp++[.fr []])).1,false⟩ x):=λx m=>by
   rw[I.names,I.kinds x m]
   have q:=xM x F.cells [] (hp++[.fr []])
   unfold xL
   cases y:lk (m5 F.cells [] (hp++[.fr []])).1 x with
   |some l=>rw[y]at q;rw[show aO x F.cells=true from((Bool.or_false _).symm.trans q.symm)]
   |none=>rw[y]at q;rw[show aO x F.cells=false from((Bool.or_false _).symm.trans q.symm)]
  simp only[newFunctionEnv,Option.isSome_none,Bool.false_eq_true,if_false]
  have y:=z.rel.alloc (o:=.fr []) (ob:=⟨.type "frame",none,.dict #[],#[]⟩) (.mk "frame" [] 0 rfl)
  have L0:Lat W hp s _ _ {s with heap:=_}:=.of (t:=s.toks) y.2
  refine wpAny_mono (E:=no) (bK (wpAny_alloc (bK (wpAny_with_toks (n:=s.toks) (A7 _) (wpAny_mono (E:=no) (jN (c:=c) (A:=A.in1) _ (λname kind cells=>rfl) fd.scope.names [] [] (hp++[.fr []]) _ {s with heap:=s.heap.push ⟨.type "frame",none,.dict #[],#[]⟩} y.1 (λx l e=>nomatch e)
   λW1 ca s1 R1 L1 C1 t1=>?_) (λ_ _ q=>q) λ_ _ f=>f.elim))))) (λ_ _ q=>q) λ_ _ f=>f.elim
  rw[hc]at R1 L1 C1
  have L2:=L0.trans L1
  have fr:FrR W1 ⟨hp.length,(m5 F.cells [] (hp++[.fr []])).1,false⟩ {scope:=fd.scope,locals:=s.heap.objs.size,globals:=mainGlobals,cells:=ca,qual:=fd.qualname++Str.ofString ".<locals>.",func:=some a,code:=fd.code,frame:=some s.heap.objs.size,builtins:=builtinsNs}:=
   ⟨A6 (by rw[y.1.len,A2];exact Nat.lt_succ_self _) L1.le.n,((L1.le.ρ _ (by rw[y.1.len,A2];exact Nat.lt_succ_self _)).trans (z.rel.push_at _)).symm,C1,I.kind,rfl,rfl⟩
  have z1:AtF c fd.scope.names n ⟨hp.length,(m5 F.cells [] (hp++[.fr []])).1,false⟩ (m5 F.cells [] (hp++[.fr []])).2 A.in1 W1 s1 _:=⟨(z.next L2 R1 t1).to z.room.in1 (z.fs.ext L2.e).in1,fr,rfl,λq=>Bool.noConfusion q⟩
  refine bK (qY (hp2:=hp1) _ (λ_ _ _=>rfl) F.params (F.fill args) _ _ W1 s1 z1 (R2.imp (λ_ _=>VR.mono L2.le) hv2) kd e1 λW2 s2 z2 L3=>wpAny_pure ⟨z2.a.nolimit,?_⟩)
  exact codeAny_func (k W2 s2 _ ⟨z2.a.to z.room.deeper (.deeper (((FrAt.new I.kind rfl z.old).ext L1.e).ext L3.e) z2.a.fs.out1),⟨z2.f.lt,z2.f.loc,z2.f.cel,z2.f.kind,z2.f.glob,z2.f.blt⟩,I.names,λ_=>(by rcases z.fs with⟨l,e,_⟩;exact⟨l,congrArg (Option.map (_::·)) e⟩)⟩ (L2.trans L3))
theorem xN {a:Nat}{F:Fn}{args:List V}{hp hp1 hp2:List O}{X:Fx}{fl:Fl}{v:V}(D:FnD c.P c.K a F)(h1:Nat.ble args.length F.params.length=true)(h2:Nat.ble F.params.length (args.length+F.dflt.length)=true)
  (en:sN F args hp=some (X,hp1))(b:Run c F.names n X hp1 (execs F.body) c.FT fl hp2)(rv:NN fl=some v):CallOk c (n+1) a args hp v hp2:=
 ⟨(by rcases D with⟨_,_,_,_,fn,_,_,_,_⟩;exact fn),λA W s vals aa ha z hv=>pO D h1 h2 en z hv ha λW2 s2 env z2 L=>wpAny_mono (b _ W2 s2 _ z2) (λf s3 p=>(by rcases p with⟨W',r,l,x⟩;exact .mk _ (.mk W' r (L.trans l) (HZ rv x)))) λ_ _ f=>f.elim⟩
noncomputable def Bx:List Nat→V→List O→Option (V×List O)
 | [],v,hp=>some (v,hp)
 |l::ls,v,hp=>(Bk l hp).bind λd=>Bx ls (v.mp (sb l d) id) ((hp.set l .gone).map (O.mp (sb l d) id))
noncomputable def MB (k:Nat)(τ:List Nat)(v:V)(hp:List O):Option (V×List O):=match Lu (List.range k++τ)&&(v.cl (fF (List.range k++τ))&&gE (List.range k++τ) hp)with
 |true=>some (v.ren (kr (List.range k++τ)),kept (List.range k++τ) hp)
 |false=>none
noncomputable def g7 (k:Nat)(fz τ:List Nat)(v:V)(hp:List O):Option (V×List O):=(Bx fz v hp).bind λp=>MB k τ p.1 p.2
noncomputable def ZV (W:Wd)(hp:List O)(W':Wd)(hp':List O):Prop:=∀ a,¬ Live W hp a→W.fz a=none→¬ Live W' hp' a∧W'.fz a=none
inductive Vr (P:Params) (W0:Wd) (hp0:List O) (h0 h:Heap) (Wc:Wd) (hpc:List O) (v:V) (u:Value) (hp:List O):Prop
 |mk (W:Wd) (R:Rel P W hp h) (E:Ext W0 hp0 h0 W hp h) (x:VR P W v u) (C:ZV Wc hpc W hp)
theorem sO {P:Params}{W0:Wd}{hp0:List O}{h0 h:Heap}{u:Value}{Wc:Wd}{hpc:List O}:∀ (fz:List Nat) {v:V} {hp:List O} {p:V×List O},Bx fz v hp=some p→Vr P W0 hp0 h0 h Wc hpc v u hp→Vr P W0 hp0 h0 h Wc hpc p.1 u p.2
 | [],_,_,_,e,x=>A9 e▸x
 |_::ls,v,_,_,e,.mk W R E x C=>(aK e).elim λd q=>(by rcases Bn R q.1 with⟨W',R',E',m,C'⟩;exact sO ls q.2 (.mk W' R' (E.trans E') (VR.go m (V.cl_all v) x) λa n z=>have y:=C a n z;C' a y.1 y.2))
set_option tactic.hygienic true in
theorem jO {P:Params}{W0:Wd}{hp0:List O}{h0 h:Heap}{u:Value}{Wc:Wd}{hpc:List O}{fz τ:List Nat}{v:V}{hp:List O}{p:V×List O}(e:g7 W0.n fz τ v hp=some p)(x:Vr P W0 hp0 h0 h Wc hpc v u hp):Vr P W0 hp0 h0 h Wc hpc p.1 u p.2:=by
 obtain⟨q,e1,e2⟩:=aK e
 unfold MB at e2
 split at e2
 ·rename_i g
  have g:=A0 g
  have g2:=A0 g.2
  exact A9 e2▸match sO fz e1 x with
   |.mk W R E x C=>.mk _ (R.keep g.1 g2.2) (E.keep R g2.2) (VR.go (mZ P W _) g2.1 x) λa n z=>have y:=C a n z;⟨λl=>y.1 (From.live (hY R g2.2) l),y.2⟩
 ·cases e2
theorem kQ {f:Nat}{args:List V}{hp hp2:List O}{v:V}{fz τ:List Nat}{p:V×List O}(h:CallOk c n f args hp v hp2)(e:g7 hp.length fz τ v hp2=some p):CallOk c n f args hp p.1 p.2:=
 ⟨h.fn,λA W s vals aa ha z hv=>codeAny_mono (h.run A W s vals aa ha z hv) λr s' q=>(by rcases q with⟨u,⟨W',R',L,x⟩⟩;exact(by rcases jO (z.rel.len.symm▸e:g7 W.n fz τ v hp2=some p) (.mk W' R' L.e x λ_ n z=>⟨n,z⟩)with⟨W2,R2,E2,x2,_⟩;exact .mk u (.mk W2 R2 ⟨E2,L.g,L.o⟩ x2)))⟩
noncomputable def Rt (σ:List Nat)(args:List V)(hp:List O):Bool:=(Lu σ&&σ.all λl=>Nat.blt l hp.length)&&(args.all (V.cl (fF σ))&&gE σ hp)
theorem qZ {m f:Nat}{args:List V}{hp hpS:List O}{v:V}{σ:List Nat}(g:Rt σ args hp=true)(l:Nat.ble m n=true)(h:CallOk c m f (args.map (V.ren (kr σ))) (kept σ hp) v hpS):CallOk c n f args hp (v.ren (rn σ hp.length)) (fY σ hp hpS):=
 have g:=A0 g
 have g1:=A0 g.1
 have g2:=A0 g.2
 ⟨h.fn,λA W s vals aa ha z hv=>codeAny_mono (h.run A (gW W σ) s vals aa ha ⟨z.room.less (A3 l),z.rel.keep g1.1 g2.2,z.kin,z.tk,z.fs⟩ (VRs.go (mZ c.P W σ) g2.1 hv)) λr s' q=>(by rcases q with⟨u,⟨WS,R',L,x⟩⟩;exact(by rcases HO z.rel (λl m=>A3 (List.all_eq_true.mp g1.2 l m)) g2.2 R' L.e with⟨W',R2,E2,m⟩;exact .mk u (.mk W' R2 ⟨E2,L.g,L.o⟩ (VR.go m (V.cl_all v) x))))⟩
end
end
section
open PySem.SeqAt
inductive Mb (p:Prop):Type where
 |ok (h:p)|no
namespace Mb
noncomputable def yes {p:Prop}:Mb p→Bool
 |.ok _=>true
 |.no=>false
theorem out {p:Prop}:∀ {x:Mb p},x.yes=true→p
 |.ok h,_=>h
noncomputable def gvn {p:Prop}(b:Bool)(f:b=true→Mb p):Mb p:=match b,f with
 |true,f=>f rfl
 |false,_=>.no
noncomputable def tkn {p q:Prop}(x:Mb q)(f:q→Mb p):Mb p:=match x with
 |.ok h=>f h
 |.no=>.no
end Mb
noncomputable def gU:Int→Int→Bool
 |.ofNat m,.ofNat n=>Nat.beq m n
 |.negSucc m,.negSucc n=>Nat.beq m n
 |_,_=>false
noncomputable def aX:Int→Int→Bool
 |.ofNat m,.ofNat n=>Nat.blt m n
 |.negSucc _,.ofNat _=>true
 |.negSucc m,.negSucc n=>Nat.blt n m
 |.ofNat _,.negSucc _=>false
theorem q0 (m n:Nat):Nat.beq m n=decide (m=n):=(Bool.eq_iff_iff.mpr (by rw[decide_eq_true_eq];exact⟨B0,λe=>e▸Nat.beq_refl m⟩))
theorem bL (a b:Int):(a==b)=gU a b:=by
 cases a <;>cases b
 ·exact(decide_eq_decide.mpr ⟨Int.ofNat.inj,congrArg _⟩).trans (q0 _ _).symm
 ·exact decide_eq_false nofun
 ·exact decide_eq_false nofun
 ·exact(decide_eq_decide.mpr ⟨Int.negSucc.inj,congrArg _⟩).trans (q0 _ _).symm
theorem NO (m n:Nat):Nat.blt m n=decide (m<n):=(Bool.eq_iff_iff.mpr (by rw[decide_eq_true_eq];exact iff_of_eq Nat.ble_eq))
theorem cN (a b:Int):decide (a<b)=aX a b:=by
 cases a with
 |ofNat m=>cases b with
  |ofNat n=>exact(decide_eq_decide.mpr Int.ofNat_lt).trans (NO _ _).symm
  |negSucc n=>exact decide_eq_false (Int.not_lt.mpr (Int.le_of_lt (Int.lt_of_lt_of_le (Int.negSucc_lt_zero n) (Int.natCast_nonneg m))))
 |negSucc m=>cases b with
  |ofNat n=>exact decide_eq_true (Int.lt_of_lt_of_le (Int.negSucc_lt_zero m) (Int.natCast_nonneg n))
  |negSucc n=>exact(decide_eq_decide.mpr (by rw[Int.negSucc_eq,Int.negSucc_eq];lia)).trans (NO _ _).symm
theorem By (a b:Int):decide (a≤b)= !aX b a:=by rw[← cN,← decide_not];exact decide_eq_decide.mpr Int.not_lt.symm
noncomputable abbrev lim:Nat:=1048576
noncomputable def eR:Int→Bool
 |.ofNat n=>Nat.ble n lim
 |.negSucc n=>Nat.ble n lim
theorem kR {k:Int}(h:eR k=true): -(2 ^ 63)≤k∧k<2 ^ 63:=by
 cases k with
 |ofNat n=>have:=A3 h;exact⟨Int.le_trans (by decide) (Int.natCast_nonneg n),Int.lt_of_le_of_lt (Int.ofNat_le.mpr this) (by decide)⟩
 |negSucc n=>have:n≤1048576:=A3 h;rw[Int.negSucc_eq];lia
theorem bC {n:Nat}(h:Nat.ble n lim=true):n≤sizeLine:=A5 (A3 h) (by decide)
theorem jP {n:Nat}(h:Nat.ble n lim=true):(n:Int)<2 ^ 63:=Int.lt_of_le_of_lt (Int.ofNat_le.mpr (A3 h)) (by decide)
noncomputable def AU:Bool→Bool→Bool
 |true,b=>b
 |false,b=> !b
theorem m7:∀ a b:Bool,(a==b)=AU a b:=by decide
noncomputable def uU:D→D→Bool
 |.non,.non=>true
 |.boo a,.boo b=>AU a b
 |.int a,.int b=>gU a b
 |.str a,.str b=>nb a b
 |_,_=>false
theorem Bz (x y:Nm):(st x==st y)=nb x y:=m0 x y 0
theorem NP {A:Around}{s:Shared}{u v:Value}{k k':Bool}(e:k=k')(a:EqAt A s u v k)(b:RcAt A s u v k):EqAt A s u v k'∧RcAt A s u v k':=e ▸ ⟨a,b⟩
structure SEq (P:Params) (a b:D):Prop where
 ok:∀ fz A s u v,DR P fz a u→DR P fz b v→EqAt A s u v (uU a b)∧RcAt A s u v (uU a b)
noncomputable def NQ (P:Params):(a b:D)→Mb (SEq P a b)
 |.non,.non=>.ok ⟨λ_ _ _ _ _ ha hb=>by rw[show _=Value.none from ha,show _=Value.none from hb];exact⟨.same _,.none_none⟩⟩
 |.non,.str _=>.ok ⟨λ_ _ _ u _ ha (.mk t)=>by rw[show u=Value.none from ha];exact⟨.none_str _ _,.none_str _ _⟩⟩
 |.str _,.non=>.ok ⟨λ_ _ _ _ v (.mk t) hb=>by rw[show v=Value.none from hb];exact⟨.str_none _ _,.str_none _ _⟩⟩
 |.boo a,.boo b=>.ok ⟨λ_ _ _ u v ha hb=>by rw[show u=Value.bool a from ha,show v=Value.bool b from hb];exact NP (m7 a b) (.bool_bool _ _) (.bool_bool _ _)⟩
 |.int a,.int b=>.ok ⟨λ_ _ _ _ _ (.mk _) (.mk _)=>NP (bL a b) (.int_int _ _ _ _) (.int_int _ _ _ _)⟩
 |.str a,.str b=>.ok ⟨λ_ _ _ _ _ (.mk _) (.mk _)=>NP (Bz a b) (.str_str _ _ _ _) (.str_str _ _ _ _)⟩
 |_,_=>.no
noncomputable def DOk (P:Params)(n:Nat)(a b:D):Prop:=∀ fz A s u v,(∀ a o,fz a=some o→s.heap.get? a=some o)→DR P fz a u→DR P fz b v→A.units+n<cLine→EqAt A s u v true∧RcAt A s u v true
theorem R2.zip {α β γ δ:Type}{R:α→β→Prop}{S:α→γ→Prop}{T:β→δ→Prop}{E:γ→δ→Prop}(k:∀ x y u v,R x y→S x u→T y v→E u v):∀ {xs:List α} {ys:List β} {us:List γ} {vs:List δ},R2 R xs ys→R2 S xs us→R2 T ys vs→R2 E us vs
 | [],_,_,_=>λh a b=>by obtain rfl:_=[]:=h;obtain rfl:_=[]:=a;exact b
 |_::_,_,_,_=>λh a b=>by
  obtain⟨_,_,rfl,h,r⟩:=Two.out h
  obtain⟨_,_,rfl,a,q⟩:=Two.out a
  obtain⟨_,_,rfl,b,t⟩:=Two.out b
  exact .mk (k _ _ _ _ h a b) (R2.zip k r q t)
theorem R2.get {α β:Type}{R:α→β→Prop}:∀ {xs:List α} {ys:List β} {j:Nat} (h1:j<xs.length) (h2:j<ys.length),R2 R xs ys→R xs[j] ys[j]
 | [],_,_=>λh1 _ _=>absurd h1 (Nat.not_lt_zero _)
 |_::_,_,j=>λh1 h2 w=>by
  obtain⟨_,_,rfl,h,r⟩:=Two.out w
  cases j with
  |zero=>exact h
  |succ j=>exact R2.get (j:=j) (Nat.lt_of_succ_lt_succ h1) (Nat.lt_of_succ_lt_succ h2) r
theorem q4 {A:Around}{s:Shared}{l l':Addr}(h:RcAt A s (.ref l) (.ref l') true):EqAt A s (.ref l) (.ref l') true∧RcAt A s (.ref l) (.ref l') true:=⟨by
 by_cases q:l=l'
 ·subst q;exact .same _
 ·exact .of_refs q h,h⟩
section
variable {P:Params}{n:Nat}{xs ys:List D}
theorem g8 {fz:Addr→Option Obj}{A:Around}{s:Shared}{vs vs':List Value}(h:R2 (DOk P n) xs ys)(hh:∀ a o,fz a=some o→s.heap.get? a=some o)(d:DRs P fz xs vs)(d':DRs P fz ys vs')(hu:A.units+(n+1)<cLine):
  vs'.length=vs.length∧∀ j (h1:j<vs.toArray.size) (h2:j<vs'.toArray.size),EqAt A.in1 s vs.toArray[j] vs'.toArray[j] true:=
 have z:R2 (λu v=>EqAt A.in1 s u v true) vs vs':=R2.zip (λ_ _ _ _ q a b=>(q fz A.in1 s _ _ hh a b (by rw[Nat.add_comm n 1,← Nat.add_assoc]at hu;exact hu)).1) h (DRs.r2.mp d) (DRs.r2.mp d')
 ⟨R2.len z,λ_ h1 h2=>R2.get h1 h2 z⟩
theorem m8 (n:Nat):(List.range n).all (λ_=>true)=true:=List.all_eq_true.mpr λ_ _=>rfl
theorem DOk.tup (h:R2 (DOk P n) xs ys):DOk P (n+1) (.tup xs) (.tup ys):=λ_ _ _ _ _ hh (.mk _ vs _ f d) (.mk _ vs' _ f' d') hu=>
 have z:=g8 h hh d d' hu
 q4 (by
  have t:=RcAt.tuples (e:=λ_=>true) ⟨_,hh _ _ f,rfl,_,rfl⟩ ⟨_,hh _ _ f',rfl,_,rfl⟩ (Nat.lt_of_le_of_lt (Nat.le_add_right _ _) hu) z.2
  rw[m8,List.size_toArray,List.size_toArray,z.1,beq_self_eq_true]at t
  exact t)
theorem DOk.lst (h:R2 (DOk P n) xs ys):DOk P (n+1) (.lst xs) (.lst ys):=λ_ _ _ _ _ hh (.mk _ vs _ f d) (.mk _ vs' _ f' d') hu=>
 have z:=g8 h hh d d' hu
 q4 (by
  have t:=RcAt.lists (e:=λ_=>true) ⟨_,hh _ _ f,rfl,_,rfl⟩ ⟨_,hh _ _ f',rfl,_,rfl⟩ (by rw[List.size_toArray,List.size_toArray,z.1]) (Nat.lt_of_le_of_lt (Nat.le_add_right _ _) hu) z.2
  rw[m8]at t
  exact t)
end
noncomputable def Ha {R:D→D→Prop}(f:∀ a b,Mb (R a b)):(xs ys:List D)→Mb (R2 R xs ys)
 | [],[]=>.ok rfl
 |x::xs,y::ys=>(f x y).tkn λh=>(Ha f xs ys).tkn λr=>.ok (.mk h r)
 |_,_=>.no
noncomputable def AV (P:Params):(n:Nat)→(a b:D)→Mb (DOk P n a b)
 |n+1,.tup xs,.tup ys=>(Ha (AV P n) xs ys).tkn λh=>.ok (DOk.tup h)
 |n+1,.lst xs,.lst ys=>(Ha (AV P n) xs ys).tkn λh=>.ok (DOk.lst h)
 |_,a,b=>(NQ P a b).tkn λh=>.gvn (uU a b) λe=>.ok λfz A s u v _ ha hb _=>e▸h.ok fz A s u v ha hb
noncomputable def rd:Value→D
 |.bool b=>.boo b
 |.int i _=>.int i
 |.str s _=>.str s.cps.toList
 |_=>.non
noncomputable def bU (x:D)(ds:List D):Bool:=ds.any λd=>uU d x
noncomputable def XZ:D→Bool
 |.str _=>true
 |.int _=>true
 |.non=>true
 |_=>false
theorem NR {P:Params}{fz:Addr→Option Obj}{d:D}{u:Value}(a:DR P fz d u)(sc:XZ d=true):rd u=d:=by
 cases d with
 |str _=>cases(a:IsS _ u);rfl
 |int _=>cases(a:IsI _ u);rfl
 |non=>exact(show u=.none from a)▸rfl
 |_=>cases sc
noncomputable abbrev Hb (P:Params)(x:D)(ds:List D):Prop:=∀ fz A s us xv,DR P fz x xv→DRs P fz ds us→(∀ y∈us,EqAt A s y xv (uU (rd y) x))∧(us.any λy=>uU (rd y) x)=bU x ds
theorem Hc {P:Params}{x:D}:Hb P x []:=λ_ _ _ us _ _ h=>by obtain rfl:us=[]:=h;exact⟨λ_ m=>absurd m List.not_mem_nil,rfl⟩
theorem mem_cons {P:Params}{x d:D}{ds:List D}(h:SEq P d x)(r:Hb P x ds)(sc:XZ d=true):Hb P x (d::ds):=λfz A s _ xv hx w=>by
 obtain⟨u,_,rfl,a,q⟩:=Two.out w
 have e:=NR a sc
 obtain⟨r1,r2⟩:=r fz A s _ xv hx q
 refine⟨λy hy=>?_,?_⟩
 ·rcases List.mem_cons.mp hy with rfl|hy
  ·rw[e];exact(h.ok fz A s _ xv a hx).1
  ·exact r1 y hy
 ·rw[List.any_cons,e,r2];rfl
noncomputable def SQ (P:Params)(x:D)(ds:List D):Mb (Hb P x ds):=
 List.rec (.ok Hc) (λd _ R=>(NQ P d x).tkn λh=>R.tkn λr=>.gvn (XZ d) λsc=>.ok (mem_cons h r sc)) ds
noncomputable def kK:Nm→Nm→Bool
 | [],[]=>false
 | [],_::_=>true
 |_::_,[]=>false
 |a::x,b::y=>Nat.blt a b||(Nat.beq a b&&kK x y)
theorem u7:∀ x y:Nm,decide (x<y)=kK x y
 | [],[]=>rfl
 | [],_::_=>decide_eq_true List.Lex.nil
 |_::_,[]=>decide_eq_false nofun
 |a::x,b::y=>by
  show _=(Nat.blt a b||(Nat.beq a b&&kK x y))
  rw[← u7 x y,NO,q0,← Bool.decide_and,← Bool.decide_or]
  exact decide_eq_decide.mpr List.cons_lt_cons_iff
set_option genCtorIdx true in
inductive Cm where|eq|ne|lt|le|gt|ge|isn|isnotn|isin|notin
noncomputable def bI:Cm→CmpOp
 |.eq=>.Eq|.ne=>.NotEq|.lt=>.Lt|.le=>.LtE|.gt=>.Gt|.ge=>.GtE|.isn=>.Is|.isnotn=>.IsNot|.isin=>.In|.notin=>.NotIn
noncomputable abbrev eP:RT Bool Value:=λ_ b u=>u=.bool b
noncomputable def u8:D→Bool
 |.non=>true
 |_=>false
noncomputable def NS:D→Bool
 |.non=>true
 |.boo _=>true
 |.int _=>true
 |.str _=>true
 |_=>false
theorem sP {P:Params}{fz:Addr→Option Obj}{d:D}{u:Value}(h:DR P fz d u)(g:NS d=true):(u==.none)=u8 d:=by
 cases d with
 |non=>rw[show u=.none from h];rfl
 |boo b=>rw[show u=.bool b from h];rfl
 |int i=>exact match u,(h:IsI i u)with|_,.mk _=>rfl
 |str x=>exact match u,(h:IsS x u)with|_,.mk _=>rfl
 |_=>cases g
section
variable {c:Cx}{n:Nat}{A:Around}{W:Wd}{hp:List O}{s:Shared}
theorem Room.eight (h:Room n A):A.units+8<cLine:=Nat.lt_of_le_of_lt (Nat.add_le_add_right (A5 (Nat.le_add_right _ _) h.un) 8) (by decide)
theorem bo (z:At c n A W hp s)(b:Bool){k:Bool}(e:b=k):Post c eP W hp s k hp (.bool b) s:=.here z (congrArg Value.bool e)
theorem NT (x y:Nm):(st x==st y)=nb x y:=m0 x y 0
noncomputable def AW (c:Cx)(n:Nat)(hp:List O):(op:Cm)→(a b:V)→Option (Rs Bool λk hp'=>a9 c n hp (compareOp (bI op)) eP a b k hp')
 |.eq,.dat x,.dat y=>match NQ c.P x y with
  |.ok h=>some ⟨uU x y,hp,true,λ_ _ _ _ _ _ z hu hv=>(h.ok _ _ _ _ _ hu hv).2 _ _ _ _ (bo z _ rfl)⟩
  |.no=>some ⟨true,hp,(AV c.P 8 x y).yes,λg _ _ _ _ _ z hu hv=>(Mb.out g _ _ _ _ _ z.rel.fz hu hv z.room.eight).2 _ _ _ _ (bo z _ rfl)⟩
 |.ne,.dat (.int i),.dat (.int j)=>some ⟨!gU i j,hp,true,λ_ _ _ _ _ _ z (.mk _) (.mk _)=>RcNeAt.int_int _ _ _ _ _ _ _ _ (bo z _ (by rw[bL]))⟩
 |.lt,.dat (.int i),.dat (.int j)=>some ⟨aX i j,hp,true,λ_ _ _ _ _ _ z (.mk _) (.mk _)=>PySem.P.lt_int (bo z _ (cN i j))⟩
 |.gt,.dat (.int i),.dat (.int j)=>some ⟨aX j i,hp,true,λ_ _ _ _ _ _ z (.mk _) (.mk _)=>PySem.P.gt_int (bo z _ (cN j i))⟩
 |.le,.dat (.int i),.dat (.int j)=>some ⟨!aX j i,hp,true,λ_ _ _ _ _ _ z (.mk _) (.mk _)=>PySem.P.le_int (bo z _ (By i j))⟩
 |.ge,.dat (.int i),.dat (.int j)=>some ⟨!aX i j,hp,true,λ_ _ _ _ _ _ z (.mk _) (.mk _)=>PySem.P.ge_int (bo z _ (By j i))⟩
 |.le,.dat (.str x),.dat (.str y)=>some ⟨!kK y x,hp,true,λ_ _ _ _ _ _ z (.mk _) (.mk _)=>PySem.P.le_str (bo z _ (congrArg (!·) (u7 y x)))⟩
 |.lt,.dat (.str x),.dat (.str y)=>some ⟨kK x y,hp,true,λ_ _ _ _ _ _ z (.mk _) (.mk _)=>PySem.P.lt_str (bo z _ (u7 x y))⟩
 |.ne,.dat (.str x),.dat (.str y)=>some ⟨!nb x y,hp,true,λ_ _ _ _ _ _ z (.mk _) (.mk _)=>RcNeAt.str_str _ _ _ _ _ _ _ _ (bo z _ (congrArg (!·) (NT x y)))⟩
 |.isn,.dat x,.dat .non=>some ⟨u8 x,hp,NS x,λg _ _ _ _ v z hu hv=>(show v=.none from hv)▸is_none (bo z _ (sP hu g))⟩
 |.isnotn,.dat x,.dat .non=>some ⟨!u8 x,hp,NS x,λg _ _ _ _ v z hu hv=>(show v=.none from hv)▸isNot_none (bo z _ (congrArg (!·) (sP hu g)))⟩
 |.isin,.dat x,.dat (.tup ds)=>some ⟨bU x ds,hp,(SQ c.P x ds).yes,λg A _ s _ _ z hu (.mk _ vs _ f d)=>have m:=Mb.out g _ A.in1 s _ _ hu d;in_tupleAt (λy=>uU (rd y) x) ⟨_,z.rel.fz _ _ f,rfl,_,rfl⟩ (λy hy=>m.1 y (List.mem_toArray.mp hy)) (bo z _ (List.any_toArray.trans m.2))⟩
 |.isin,.dat (.str x),.dat (.str y)=>some ⟨Txt.contains (st y) (st x),hp,true,λ_ _ _ _ _ _ z (.mk _) (.mk _)=>SB.contains (bo z _ rfl)⟩
 |.notin,.dat (.str x),.dat (.str y)=>some ⟨!Txt.contains (st y) (st x),hp,true,λ_ _ _ _ _ _ z (.mk _) (.mk _)=>SB.notContains (bo z _ rfl)⟩
 |.notin,.dat x,.dat (.tup ds)=>some ⟨!bU x ds,hp,(SQ c.P x ds).yes,λg A _ s _ _ z hu (.mk _ vs _ f d)=>have m:=Mb.out g _ A.in1 s _ _ hu d;notIn_tupleAt (λy=>uU (rd y) x) ⟨_,z.rel.fz _ _ f,rfl,_,rfl⟩ (λy hy=>m.1 y (List.mem_toArray.mp hy)) (bo z _ (congrArg (!·) (List.any_toArray.trans m.2)))⟩
 |_,_,_=>none
end
end
section
theorem SR (x:Str)(v:Value):Value.isStrOf x v=v.isStr x:=by cases v <;>rfl
noncomputable abbrev SK (c:Cx):=PySem.strKind c.prog c.w
section
variable {c:Cx}{W:Wd}{h:Heap}{a:Addr}
theorem Ent.kn {x:Nm}{R:Value→Prop}{e:DictEntry}:Ent c.P x R e→Value.isStrOf (st x) e.key=true∧e.hash=hashStr c.w (st x)
 |.mk _ t h k _=>⟨by rw[k];exact beq_self_eq_true _,h⟩
theorem ER.kn:∀ {es:List (Nm×V)} {en:List DictEntry},ER c.P W es en→∀ e∈en,∃ k,Value.isStrOf k e.key=true∧e.hash=hashStr c.w k
 | [],_,h,_,m=>nomatch ((h:_=[])▸m)
 |_::_,_,.mk a r,e,m=>(List.mem_cons.mp m).elim (λq=>⟨_,q▸a.kn⟩) λq=>ER.kn r e q
theorem ER.keysOf {es:List (Nm×V)}{en:List DictEntry}(E:ER c.P W es en):PySem.KeysOf (SK c) en.toArray:=λe m=>E.kn e (List.mem_toArray.mp m)
theorem CA {en:List DictEntry}{k:Nat}{es:List (Nm×V)}(E:ER c.P W es en)(g:h.get? a=some ⟨.type "dict",none,.dict en.toArray k,#[]⟩):h.MapOf (SK c) a λk=>findBy Value.isStrOf en.toArray k:=⟨_,_,k,g,⟨rfl,rfl,rfl⟩,rfl,E.keysOf,λ_=>rfl⟩
theorem xO {en:List DictEntry}{x:Nm}{u:Value}(e:lU (st x) en=some u):findBy Value.isStrOf en.toArray (st x)=some u:=by
 unfold findBy
 rw[List.find?_toArray,funext λe:DictEntry=>SR (st x) e.key]
 exact(gZ _ _).trans e
noncomputable abbrev KR (P:Params)(W:Wd)(p:Nm×V)(q:Str×Value):Prop:=q.1=st p.1∧VR P W p.2 q.2
theorem KR.keys:∀ {es:List (Nm×V)} {ks:List (Str×Value)},R2 (KR c.P W) es ks→ks.map (·.1)=(es.map (·.1)).map st
 | [],_,h=>by obtain rfl:_=[]:=h;rfl
 |_::_,_,.mk a r=>by rw[List.map_cons,List.map_cons,List.map_cons,a.1,KR.keys r]
theorem ER.rows:∀ {es:List (Nm×V)} {en:List DictEntry},ER c.P W es en→∃ ks,R2 (KR c.P W) es ks∧Pairs (SK c) en ks
 | [],_,h=>by obtain rfl:_=[]:=h;exact⟨[],rfl,.nil⟩
 |(x,_)::_,_,.mk (a:=e) a r=>(ER.rows r).elim λks q=>⟨(st x,e.val)::ks,.mk ⟨rfl,a.val⟩ q.1,.cons a.kn.1 rfl q.2⟩
theorem xP:∀ {es:List (Nm×V)} {en:List DictEntry} {ks:List (Str×Value)},R2 (KR c.P W) es ks→Pairs (SK c) en ks→(∀ e∈en,∃ k,Value.isStrOf k e.key=true∧e.hash=hashStr c.w k)→ER c.P W es en
 | [],_,_,h,p,_=>by obtain rfl:_=[]:=h;cases p;rfl
 |(x,_)::_,_,_,.mk a r,p,hk=>by
  cases p with
  | @cons e _ en _ k1 k2 k3=>
   obtain⟨k,q⟩:=hk e (.head _)
   have k1:Value.isStrOf (st x) e.key=true:=a.1▸k1
   exact .mk ((Value.isStrOf_shape k1).elim λt ht=>.mk e t (Value.isStrOf_inj _ _ _ k1 q.1▸q.2) ht (k2▸a.2)) (xP r k3 λe' m=>hk e' (.tail _ m))
theorem AX {ks:List (Str×Value)}{k:Str}{u:Value}(h:k ∉ ks.map (·.1)):ks.map (λkv=>if kv.1=k then(kv.1,u)else kv)=ks:=by
 conv=>rhs;rw[← List.map_id ks]
 exact List.map_congr_left λkv m=>if_neg λe:kv.1=k=>h (e▸List.mem_map_of_mem m)
theorem hZ {x:Nm}{v:V}{u:Value}(hv:VR c.P W v u):∀ {es:List (Nm×V)} {ks:List (Str×Value)},R2 (KR c.P W) es ks→(es.map (·.1)).Nodup→R2 (KR c.P W) (pt es x v) (PySem.stored ks (st x) u)
 | [],_=>λh _=>by obtain rfl:_=[]:=h;exact .mk ⟨rfl,hv⟩ rfl
 |(y,d)::es,_=>λw nd=>by
  obtain⟨⟨k,z⟩,ks,rfl,h1,r⟩:=Two.out w
  have nd:=List.nodup_cons.mp nd
  obtain⟨e,h1⟩:=h1
  have e:k=st y:=e
  subst e
  unfold pt
  dsimp only
  cases q:nb y x with
  |true=>
   obtain rfl:=b9 q
   have m:st y ∉ ks.map (·.1):=by rw[KR.keys r];exact λm=>nd.1 ((List.mem_map.mp m).elim λy' w=>mY w.2▸w.1)
   have e1:PySem.stored ((st y,z)::ks) (st y) u=(st y,u)::ks:=by
    unfold PySem.stored
    rw[List.any_cons,decide_eq_true rfl,Bool.true_or,if_pos rfl,List.map_cons,if_pos rfl,AX m]
   rw[e1];exact .mk ⟨rfl,hv⟩ r
  |false=>
   have ne:¬ st y=st x:=λe=>pN q (mY e)
   have e1:PySem.stored ((st y,z)::ks) (st x) u=(st y,z)::PySem.stored ks (st x) u:=by
    unfold PySem.stored
    rw[List.any_cons,decide_eq_false ne,Bool.false_or,List.map_cons,if_neg ne]
    cases ks.any λkv=>decide (kv.1=st x)<;>rfl
   rw[e1];exact .mk ⟨rfl,h1⟩ (hZ hv r nd.2)
theorem kS {es:List (Nm×V)}{ks:List (Str×Value)}(d:h.DictOf (SK c) a ks)(k:R2 (KR c.P W) es ks)(nd:(es.map (·.1)).Nodup):Got h a (OR c.P W (.ns es)):=by
  obtain⟨⟨_,_,_,_⟩,en,n,h1,⟨h2,h3,h4⟩,h5,h6,h7,_⟩:=d
  cases h2;cases h3;cases h4;cases h5
  exact .mk _ h1 ⟨nd,.mk en.toList n (xP k h7 λe m=>h6 e (Array.mem_toList_iff.mp m))⟩
theorem g9:∀ {l:List Nm},l.Nodup→(l.map st).Nodup
 | [],_=>List.nodup_nil
 |_::_,h=>have h:=List.nodup_cons.mp h;List.nodup_cons.mpr ⟨λm=>(List.mem_map.mp m).elim λ_ w=>h.1 (mY w.2▸w.1),g9 h.2⟩
end
inductive LAt (P:Params) (W:Wd) (h:Heap) (cl:String) (xs:List V):Value→Prop
 |mk (a:Addr) (us:List Value) (n:Nat) (I:h.get? a=some ⟨.type cl,none,.seq us.toArray n,#[]⟩) (d:VRs P W xs us):LAt P W h cl xs (.ref a)
noncomputable def items (v:V)(hp:List O):Option (List V):=match v with
 |.dat (.lst ds)=>some (ds.map .dat)
 |.ref l=>hp[l]?.bind O.lsE
 |_=>none
noncomputable def dK (v:V)(hp:List O):Option (List V):=match v with
 |.dat (.tup ds)=>some (ds.map .dat)
 |.ref l=>hp[l]?.bind O.tupE
 |_=>none
section
variable {P:Params}{W:Wd}{hp:List O}{h:Heap}{u:Value}{xs:List V}{l:Nat}
theorem DRs.vrs {ds:List D}{us:List Value}(d:DRs P W.fz ds us):VRs P W (ds.map .dat) us:=R2.map (DRs.r2.mp d)
theorem DRe.er:∀ {es:List (Nm×D)} {en:List DictEntry},DRe P W.fz es en→ER P W (es.map λp=>(p.1,.dat p.2)) en
 | [],_,h=>h
 |_::_,_,.mk a r=>.mk a (DRe.er r)
theorem xQ (R:Rel P W hp h)(hv:VR P W (.ref l) u)(e:hp[l]?.bind O.lsE=some xs):LAt P W h "list" xs u:=(aK e).elim λo q=>by
 cases o with
 |lst ys=>exact match R.lst ⟨q.1,rfl⟩with|.mk us n g d=>(show u=.ref (W.ρ l)from hv.2) ▸ .mk _ us n g (A9 q.2▸d)
 |dls ds=>exact match R.dls ⟨q.1,rfl⟩with|.mk us n g d=>(show u=.ref (W.ρ l)from hv.2) ▸ .mk _ us n g (A9 q.2▸DRs.vrs d)
 |_=>exact nomatch q.2
theorem Hd (R:Rel P W hp h)(hv:VR P W (.ref l) u)(e:hp[l]?.bind O.tupE=some xs):LAt P W h "tuple" xs u:=(by rcases R.tup (NK e)with⟨us,n,g,d⟩;exact(show u=.ref (W.ρ l)from hv.2) ▸ .mk _ us n g d)
theorem aP {v:V}(R:Rel P W hp h)(hv:VR P W v u)(e:items v hp=some xs):LAt P W h "list" xs u:=by
 cases v with
 |dat d=>cases d with
  |lst ds=>exact match u,(hv:IsSeq W.fz "list" (DRs P W.fz ds) u)with|_,.mk a vs n f d=>A9 e ▸ .mk a vs n (R.fz _ _ f) d.vrs
  |_=>cases e
 |ref l=>exact xQ R hv e
 |_=>cases e
theorem cM {v:V}(R:Rel P W hp h)(hv:VR P W v u)(e:dK v hp=some xs):LAt P W h "tuple" xs u:=by
 cases v with
 |dat d=>cases d with
  |tup ds=>exact match u,(hv:IsSeq W.fz "tuple" (DRs P W.fz ds) u)with|_,.mk a vs n f d=>A9 e ▸ .mk a vs n (R.fz _ _ f) d.vrs
  |_=>cases e
 |ref l=>exact Hd R hv e
 |_=>cases e
end
noncomputable def uV {α:Type}:List α→Bool
 | []=>false
 |_::_=>true
theorem u9:typeLookup (.type "method") "__bool__" =pure none:=by rw[typeLookup_type,builtinLookup_eq_fast];kernel_rfl
theorem AY:typeLookup (.type "method") "__len__" =pure none:=by rw[typeLookup_type,builtinLookup_eq_fast];kernel_rfl
section
variable {c:Cx}{n:Nat}{A:Around}{W:Wd}{hp:List O}{s:Shared}
theorem eS {i:Int}{t k:Nat}(z:At c n A W hp s):Post c c.VT W hp s (.dat (.int i)) hp (.int i t) {s with toks:=k}:=.tok z (.mk t)
theorem iR {x:Nm}{t k:Nat}(z:At c n A W hp s):Post c c.VT W hp s (.dat (.str x)) hp (.str (st x) t) {s with toks:=k}:=.tok z (.mk t)
theorem NU {x:Str}{t k:Nat}(z:At c n A W hp s):Post c c.VT W hp s (.dat (.str x.cps.toList)) hp (.str x t) {s with toks:=k}:=aI x▸iR z
theorem He {xs:List V}{us:List Value}(d:VRs c.P W xs us):(!us.toArray.isEmpty)=uV xs:=by
 cases xs with
 |nil=>obtain rfl:us=[]:=d;rfl
 |cons=>cases us with
  |nil=>exact nomatch R2.len d
  |cons=>rfl
noncomputable def Xa (v:V)(hp:List O):Option (Rs Bool λk hp'=>Bs c n hp truthy Br v k hp'):=tk (items v hp) λxs e=>some ⟨uV xs,hp,Nat.ble xs.length lim,λg _ _ _ u z h=>match u,aP z.rel h e with
 |_,.mk a us k I d=>wpAny_truthy_list ⟨_,I,rfl,k,rfl⟩ (by rw[List.size_toArray,R2.len d];exact jP g) (.tok z (He d))⟩
noncomputable def NV (c:Cx)(n:Nat)(hp:List O):(v:V)→Option (Rs Bool λk hp'=>Bs c n hp truthy Br v k hp')
 |.dat .non=>some ⟨false,hp,true,λ_ _ _ _ u z h=>(show u=.none from h)▸wpAny_pure (.here z rfl)⟩
 |.dat (.boo b)=>some ⟨b,hp,true,λ_ _ _ _ u z h=>(show u=.bool b from h)▸wpAny_pure (.here z rfl)⟩
 |.dat (.int i)=>some ⟨!gU i 0,hp,true,λ_ _ _ _ _ z (.mk _)=>PySem.P.truthy_int (.here z (congrArg (!·) (bL i 0)))⟩
 |.dat (.str x)=>some ⟨uV x,hp,Nat.ble x.length lim,λg _ _ _ _ z (.mk _)=>PySem.P.truthy_str (Int.not_le.mpr (jP g)) (.tok z (by cases x <;>rfl))⟩
 |.mth f l=>some ⟨true,hp,true,λ_ _ _ _ _ z (.mk a _ f)=>by
   have hT:_:=z.rel.fz _ _ f
   unfold truthy
   exact bK (wpAny_callSpecial?_none (name:=Str.ofString "__bool__") (T:="method") ⟨_,hT,rfl⟩ u9 (bK (wpAny_specialOf (name:=Str.ofString "__len__") (T:="method") ⟨_,hT,rfl⟩ AY (wpAny_pure (.here z rfl)))))⟩
 |v=>Xa v hp
end
end
section
theorem kT (x:Nm):(st x).length=x.length:=rfl
theorem pP (x y:Nm):st x++st y=st (x++y):=congrArg Str.mk (List.append_toArray x y)
noncomputable def AZ:Int→Nat→Option Nat
 |.ofNat m,n=>match Nat.blt m n with
  |true=>some m
  |false=>none
 |.negSucc m,n=>match Nat.ble (m+1) n with
  |true=>some (n - (m+1))
  |false=>none
noncomputable def sQ {α:Type}(xs:List α)(k:Int):Option α:=(AZ k xs.length).bind λj=>xs[j]?
theorem kU {k:Int}{n j:Nat}(e:AZ k n=some j):seqIndex? k n=some j∧((0≤k∧k.toNat=j)∨(k<0∧ -(n:Int)≤k∧(k+n).toNat=j))∧j<n:=by
 unfold seqIndex?
 cases k with
 |ofNat m=>
  have e:(match Nat.blt m n with|true=>some m|false=>none)=some j:=e
  cases h:Nat.blt m n with
  |false=>rw[h]at e;cases e
  |true=>
   rw[h]at e
   obtain rfl:=A9 e
   have h:m<n:=A3 h
   have p:¬ Int.ofNat m<0:=Int.not_lt.mpr (Int.natCast_nonneg m)
   exact⟨by rw[if_neg p];exact if_pos (Bool.and_eq_true_iff.mpr ⟨decide_eq_true (Int.natCast_nonneg m),decide_eq_true (Int.ofNat_lt.mpr h)⟩),.inl ⟨Int.natCast_nonneg m,rfl⟩,h⟩
 |negSucc m=>
  have e:(match Nat.ble (m+1) n with|true=>some (n - (m+1))|false=>none)=some j:=e
  cases h:Nat.ble (m+1) n with
  |false=>rw[h]at e;cases e
  |true=>
   rw[h]at e
   obtain rfl:=A9 e
   have h:=A3 h
   have p:Int.negSucc m+(n:Int)=((n - (m+1):Nat):Int):=by rw[Int.negSucc_eq];omega
   have lt:n - (m+1)<n:=Nat.sub_lt (A6 (Nat.succ_pos m) h) (Nat.succ_pos m)
   exact⟨by rw[if_pos (Int.negSucc_lt_zero m),p];exact if_pos (Bool.and_eq_true_iff.mpr ⟨decide_eq_true (Int.natCast_nonneg _),decide_eq_true (Int.ofNat_lt.mpr lt)⟩),.inr ⟨Int.negSucc_lt_zero m,by rw[Int.negSucc_eq];omega,congrArg Int.toNat p⟩,lt⟩
set_option genCtorIdx true in
inductive Op where|add|sub|mod|fdiv|mul|pow
noncomputable def fG:Op→Operator
 |.add=>.Add|.sub=>.Sub|.mod=>.Mod|.fdiv=>.FloorDiv|.mul=>.Mult|.pow=>.Pow
section
variable {c:Cx}{n:Nat}{A:Around}{W:Wd}{hp:List O}{s:Shared}{α β:Type}
theorem e8 {xs:List V}{us:List Value}{t:Nat}(z:At c n A W hp s)(d:VRs c.P W xs us):Post c c.VT W hp s (.ref hp.length) (hp++[.lst xs]) (.ref s.heap.objs.size) {s with heap:=s.heap.push {cls:=.type "list",data:=.seq us.toArray},toks:=t}:=
 have y:=z.rel.alloc (o:=.lst xs) (.mk us 0 (VRs.mono (Wd.le_push W _) d))
 .mk _ y.1 (.of y.2) ⟨z.rel.len▸Nat.lt_succ_self _,congrArg Value.ref (z.rel.push_at _).symm⟩
theorem f7 {l:Nat}{xs ys:List V}{us vs:List Value}{k t:Nat}{f:Array Value→Array Value}{RR:RT β α}{b:β}{r:α}(z:At c n A W hp s)(lv:Lv hp l (.lst xs))(g:s.heap.get? (W.ρ l)=some ⟨.type "list",none,.seq us.toArray k,#[]⟩)
  (d:VRs c.P W ys vs)(hf:f us.toArray=vs.toArray)(x:RR W b r):Post c RR W hp s b (hp.set l (.lst ys)) r {s with heap:=s.heap.update (W.ρ l) (Obj.mapSeq f),toks:=t}:=
 have y:=z.rel.update (l:=l) (o':=.lst ys) (f:=Obj.mapSeq f) lv g (by simp only[Obj.mapSeq,hf];exact .mk vs _ d)
 .mk W y.1 (.of y.2) x
theorem xR {x:Int}(g:eR x=true):x.natAbs<2 ^ 64:=by
 have:=kR g
 omega
theorem pQ {x y:Int}(g:(!aX x y)=true):y≤x:=Int.not_lt.mp (of_decide_eq_false ((cN x y).trans ((Bool.not_eq_true' _).mp g)))
noncomputable def Xb (c:Cx)(n:Nat)(hp:List O)(x y:Int):(op:Op)→Rs V λv hp'=>a9 c n hp (binaryOp (fG op)) c.VT (.dat (.int x)) (.dat (.int y)) v hp'
 |.add=>⟨.dat (.int (x+y)),hp,true,λ_ _ _ _ _ _ z (.mk _) (.mk _)=>PySem.P.add_int (eS z)⟩
 |.sub=>⟨.dat (.int (x-y)),hp,true,λ_ _ _ _ _ _ z (.mk _) (.mk _)=>PySem.P.sub_int (eS z)⟩
 |.mod=>⟨.dat (.int (Int.fmod x y)),hp,!gU y 0,λg _ _ _ _ _ z (.mk _) (.mk _)=>mod_int (bne_iff_ne.mp ((congrArg (!·) (bL y 0)).trans g)) (eS z)⟩
 |.mul=>⟨.dat (.int (x*y)),hp,eR x,λg _ _ _ _ _ z (.mk _) (.mk _)=>PySem.P.mul_int (eS z) (.of_left (intBits_le (xR g)))⟩
 |.pow=>⟨.dat (.int (x ^ y.toNat)),hp,!aX y 0&&(!aX 1000 y&&eR x),λg _ _ _ _ _ z (.mk _) (.mk _)=>have g:=A0 g;have g2:=A0 g.2;pow_int_small (pQ g.1) (Int.le_trans (pQ g2.1) (by decide)) (xR g2.2) (eS z)⟩
 |.fdiv=>⟨.dat (.int (Int.fdiv x y)),hp,!gU y 0&& !Builtin.divisionGoesByPylong x y,λg _ _ _ _ _ z (.mk _) (.mk _)=>have g:=A0 g;floordiv_int (bne_iff_ne.mp ((congrArg (!·) (bL y 0)).trans g.1)) (eS z) (.inl ((Bool.not_eq_true' _).mp g.2))⟩
theorem q5 {v:V}{ob:Obj}{t:Nat}(z:At c n A W hp s)(hf:ob.isFreed=false)(x:VR c.P (W.freeze s.heap.objs.size ob) v (.ref s.heap.objs.size))(hn:frm ob=false:=by rfl):Post c c.VT W hp s v hp (.ref s.heap.objs.size) {s with heap:=s.heap.push ob,toks:=t}:=
 have y:=z.rel.allocZ hf hn
 .mk _ y.1 (.of y.2) x
theorem ZW {P:Params}{fz:Addr→Option Obj}{x:D}{xs:List D}{us:List Value}(d:DRs P fz (x::xs) us):¬ us.toArray.isEmpty=true:=by
 rcases d with⟨h,r⟩
 exact A8
theorem Hf {c:Cx}{n:Nat}{hp:List O}{x y:D}{xs ys:List D}(g:Nat.ble ((x::xs).length+(y::ys).length) lim=true):a9 c n hp (binaryOp (fG .add)) c.VT (.dat (.tup (x::xs))) (.dat (.tup (y::ys))) (.dat (.tup ((x::xs)++(y::ys)))) hp:=λA W s u u' z h h'=>by
 rcases(h:IsSeq W.fz "tuple" (DRs c.P W.fz (x::xs)) u)with⟨a,us,k,f,d⟩
 rcases(h':IsSeq W.fz "tuple" (DRs c.P W.fz (y::ys)) u')with⟨a',us',k',f',d'⟩
 have e1:=DRs.r2.mp d
 have e2:=DRs.r2.mp d'
 refine PySem.P.add_tuple (z.rel.fz _ _ f) (z.rel.fz _ _ f') (ZW d) (ZW d') ?_ (by rw[List.size_toArray,List.size_toArray,R2.len e1,R2.len e2];exact bC g)
 rw[List.append_toArray]
 exact q5 z rfl (.mk _ _ _ (if_pos rfl) (DRs.mono (Wd.le_freeze z.rel.new_cold).fz (DRs.r2.mpr (R2.app e1 e2))))
noncomputable def Xc (c:Cx)(n:Nat)(hp:List O)(a b:V):(op:Op)→Option (Rs V λv hp'=>a9 c n hp (binaryOp (fG op)) c.VT a b v hp')
 |.add=>tk (items a hp) λxs e=>tk (items b hp) λys e'=>some ⟨.ref hp.length,hp++[.lst (xs++ys)],Nat.ble (xs.length+ys.length) lim,λg _ _ _ u u' z h h'=>match u,u',aP z.rel h e,aP z.rel h' e' with
  |_,_,.mk a us k I d,.mk a' us' k' I' d'=>PySem.P.add_list I I' (by rw[List.append_toArray];exact e8 z (R2.app d d')) (by rw[List.size_toArray,List.size_toArray,R2.len d,R2.len d'];exact bC g)⟩
 |_=>none
noncomputable def Xd (c:Cx)(n:Nat)(hp:List O)(op:Op):(a b:V)→Option (Rs V λv hp'=>a9 c n hp (binaryOp (fG op)) c.VT a b v hp')
 |.dat (.int x),.dat (.int y)=>some (Xb c n hp x y op)
 |.dat (.str x),.dat (.str y)=>match op with
  |.add=>some ⟨.dat (.str (x++y)),hp,Nat.ble (x.length+y.length) lim,λg _ _ _ _ _ z (.mk _) (.mk _)=>SB.add (λt' k=>pP x y▸iR z) (bC g)⟩
  |_=>none
 |.dat (.tup x),.dat (.tup y)=>match op,x,y with
  |.add,_::_,_::_=>some ⟨.dat (.tup (_++_)),hp,Nat.ble (_+_) lim,Hf⟩
  |_,_,_=>none
 |a,b=>Xc c n hp a b op
theorem vA {l b:Addr}{us vs:Array Value}{k m:Nat}{Q:Value→Shared→Prop}(hl:IsL s.heap l us k)(hb:IsL s.heap b vs m)(hz:us.size+vs.size≤sizeLine)
  (h:Q (.ref l) {s with heap:=s.heap.update l (Obj.mapSeq (· ++vs))}):c.wp A (inplaceOp .Add (.ref l) (.ref b)) Q s:=by
 have tl:s.TypeIs (.ref l) "list" :=⟨_,hl,rfl⟩
 have tb:s.TypeIs (.ref b) "list" :=⟨_,hb,rfl⟩
 have seq:isSeqSlot (some (.builtin "list.__iadd__"))=true:=by decide+kernel
 have fi:fillsInplaceSlot (.type "list") "add" (Operator.Add==.Add)=pure false:=by
  unfold fillsInplaceSlot
  show(typeLookup (.type "list") (dunderI "add") >>= λfi=>pure (fi.isSome&& !isSeqSlot fi))=pure false
  rw[F.slot_list_iadd.lookup,pure_bind,seq];rfl
 unfold inplaceOp
 refine wpAny_holding (bK (wpAny_typeOf tl (bK (wpAny_of_eq fi ?_))))
 show wpAny _ A (if false=true then _ else _) Q no s
 rw[if_neg A8]
 refine bK (wpAny_binaryOp1_none (nm:="add") tl tb noFill_list_add ?_)
 refine bK (wpAny_of_eq (PySem.seqSlot_of F.slot_list_iadd.lookup seq) (bK (wpAny_rule ?_)))
 exact call_meets F.slot_list_iadd tl F.entry_list_iadd (F.args_list_iadd_2 _ _) (AutoSeq1.list___iadd___list_list_0 l us k b vs m (λq=>Nat.not_lt.mpr hz (of_decide_eq_true (A0 q).2)) (A5 (Nat.le_add_right _ _) hz) (Nat.le_succ_of_le hz)) ⟨hl,hb,h⟩
noncomputable def NW (c:Cx)(n:Nat)(hp:List O):(op:Op)→(a b:V)→Option (Rs V λv hp'=>a9 c n hp (inplaceOp (fG op)) c.VT a b v hp')
 |.add,.dat (.int x),.dat (.int y)=>some ⟨.dat (.int (x+y)),hp,true,λ_ _ _ _ _ _ z (.mk _) (.mk _)=>PySem.P.iadd_int (eS z)⟩
 |.sub,.dat (.int x),.dat (.int y)=>some ⟨.dat (.int (x-y)),hp,true,λ_ _ _ _ _ _ z (.mk _) (.mk _)=>PySem.P.isub_int (eS z)⟩
 |.add,.dat (.str x),.dat (.str y)=>some ⟨.dat (.str (x++y)),hp,Nat.ble (x.length+y.length) lim,λg _ _ _ _ _ z (.mk _) (.mk _)=>SB.iadd (λt' k=>pP x y▸iR z) (bC g)⟩
 |.add,.ref l,b=>tk (hp[l]?.bind O.lstE) λxs e=>tk (items b hp) λys e'=>some ⟨.ref l,hp.set l (.lst (xs++ys)),Nat.ble (xs.length+ys.length) lim,λg _ W _ u u' z h h'=>match u',z.rel.lst (dY e),aP z.rel h' e' with
  |_,.mk us k I d,.mk a' us' k' I' d'=>by
   rw[show u=.ref (W.ρ l)from h.2]
   exact vA I I' (by rw[List.size_toArray,List.size_toArray,R2.len d,R2.len d'];exact bC g) (f7 (t:=_) z (dY e) I (R2.app d d') (List.append_toArray us us').symm.symm ⟨h.1,rfl⟩)⟩
 |_,_,_=>none
noncomputable def CB (c:Cx)(n:Nat)(hp:List O)(x:Nm)(k:Int)(a:Nat)(e:sQ x k=some a):Rs V λv hp'=>a9 c n hp getItem c.VT (.dat (.str x)) (.dat (.int k)) v hp':=
 ⟨.dat (.str [a]),hp,eR k,λg _ _ _ _ _ z (.mk _) (.mk _)=>(aK e).elim λj q=>have l:=kR g
  PySem.P.getItem_str (c:=a) (Bool.or_eq_false_iff.mpr ⟨decide_eq_false (Int.not_lt.mpr l.1),decide_eq_false (Int.not_le.mpr l.2)⟩) (by rw[kT,(kU q.1).1,Option.bind_some];exact(List.getElem?_toArray ..).trans q.2) (iR (x:=[a]) z)⟩
theorem eF {o:V}{k:Int}{xs:List V}{x:V}(e:items o hp=some xs)(e2:sQ xs k=some x)(g:eR k=true):a9 c n hp getItem c.VT o (.dat (.int k)) x hp:=λ_ _ _ u _ z h (.mk _)=>match u,aP z.rel h e with
 |_,.mk a us m I d=>(aK e2).elim λj q=>(R2.at d q.2).elim λy r=>by
  have l:=kR g
  have i:=kU q.1
  have r1:us.toArray[j]? =some y:=(List.getElem?_toArray ..).trans r.1
  rcases i.2.1 with⟨i1,i2⟩|⟨i1,i2,i3⟩
  ·exact wpAny_getItem_list ⟨_,I,rfl,m,rfl⟩ i1 l.2 (i2.symm▸r1) (.here z r.2)
  ·have sz:us.toArray.size=xs.length:=List.size_toArray.trans (R2.len d)
   exact wpAny_getItem_list_neg ⟨_,I,rfl,m,rfl⟩ i1 (sz.symm▸i2) l.1 (by rw[sz,i3];exact r1) (.here z r.2)
noncomputable def NY (c:Cx)(n:Nat)(hp:List O)(o:V)(k:Int):Option (Rs V λv hp'=>a9 c n hp getItem c.VT o (.dat (.int k)) v hp'):=
 AR (items o hp) (λxs e=>tk (sQ xs k) λx e2=>some ⟨x,hp,eR k,eF e e2⟩)
  λ_=>tk (dK o hp) λxs e=>tk (sQ xs k) λx e2=>some ⟨x,hp,eR k,λg _ _ _ u _ z h (.mk _)=>match u,cM z.rel h e with
   |_,.mk a us m I d=>(aK e2).elim λj q=>(R2.at d q.2).elim λy r=>have l:=kR g
    PySem.P.getItem_tuple I l.1 l.2 (by rw[List.size_toArray,R2.len d];exact(kU q.1).1) ((List.getElem?_toArray ..).trans r.1) (.here z r.2)⟩
theorem sR {en:List DictEntry}{k:Nat}{es:List (Nm×V)}{x:Nm}{v:V}{a:Addr}{t:Tok}(z:At c n A W hp s)(E:ER c.P W es en)(g:s.heap.get? a=some ⟨.type "dict",none,.dict en.toArray k,#[]⟩)(e:lk es x=some v):c.wp A (getItem (.ref a) (.str (st x) t)) (Post c c.VT W hp s v hp) s:=
 (E.find e).elim λu r=>wpAny_getItem_of (knd:=SK c) (beq_self_eq_true _:Value.isStrOf (st x) (.str (st x) t)=true) (CA E g) (xO r.1) (.tok z r.2)
theorem CG {x:Nm}{d:D}:∀ {es:List (Nm×D)},lk es x=some d→lk (es.map λp=>(p.1,V.dat p.2)) x=some (.dat d)
 |p::r,e=>by
  have e:(bif nb p.1 x then some p.2 else lk r x)=some d:=e
  show(bif nb p.1 x then some (V.dat p.2)else lk (r.map λp=>(p.1,V.dat p.2)) x)=_
  cases q:nb p.1 x with
  |true=>rw[q]at e;exact congrArg (λd=>some (V.dat d)) (A9 e)
  |false=>rw[q]at e;exact CG e
theorem gG {es:List (Nm×D)}{x:Nm}{d:D}(e:lk es x=some d):a9 c n hp getItem c.VT (.dat (.dct es)) (.dat (.str x)) (.dat d) hp:=λ_ _ _ _ _ z (.mk _ _ _ f q) (.mk _)=>sR z (DRe.er q) (z.rel.fz _ _ f) (CG e)
noncomputable def SS (c:Cx)(n:Nat)(hp:List O):(o i:V)→Option (Rs V λv hp'=>a9 c n hp getItem c.VT o i v hp')
 |.dat (.str x),.dat (.int k)=>tk (sQ x k) λa e=>some (CB c n hp x k a e)
 |.dat (.dct es),.dat (.str x)=>tk (lk es x) λd e=>some ⟨.dat d,hp,true,λ_=>gG e⟩
 |.ref l,.dat (.str x)=>tk (hp[l]?.bind O.nsE) λes e=>tk (lk es x) λv e2=>some ⟨v,hp,true,λ_ _ W _ u _ z h (.mk _)=>match z.rel.ns (fZ e)with
  |.mk en k g E _=>(show u=.ref (W.ρ l)from h.2)▸sR z E g e2⟩
 |o,.dat (.int k)=>NY c n hp o k
 |_,_=>none
theorem CI {l:Addr}{us:Array Value}{m:Nat}{k:Int}{j:Nat}{t:Tok}{v:Value}{Q:Unit→Shared→Prop}(hl:IsL s.heap l us m)(hj:AZ k us.size=some j)(g:eR k=true)
  (h:Q () {s with heap:=s.heap.update l (Obj.mapSeq (·.setIfInBounds j v))}):c.wp A (setItem (.ref l) (.int k t) v) Q s:=by
 have i:=kU hj
 have at_:us[j]? =some us[j]:=Array.getElem?_eq_getElem i.2.2
 have ty:s.TypeIs (.ref l) "list" :=⟨_,hl,rfl⟩
 unfold setItem
 refine wpAny_holding (bK (wpAny_sequenceKey ty (by decide) ?_))
 refine bK (wpAny_callSpecial?_slot (name:=Str.ofString "__setitem__") ty slot_list_setitem (wpAny_call_entry slot_list_setitem ty entry_list_setitem ?_ (args_list_setitem _ _ _)))
 show wpAny _ _ (Builtin.List.listSubscript? (.int k t) >>= _) _ _ s
 refine bK (wpAny_listSubscript_int (Bool.and_eq_true_iff.mpr ⟨decide_eq_true (kR g).1,decide_eq_true (kR g).2⟩) ?_)
 have h9:wpAny c.M A.in1 (setSeqItemAt l j v >>= λ_=>ret .none) (λh9 s'=>∃ r,h9=.done (.ret r)∧wpAny c.M A (pure ():Sem Unit) Q no s') no s:=
  bK (wpAny_setSeqItemAt hl rfl (wpAny_pure ⟨.none,rfl,wpAny_pure h⟩))
 cases k with
 |ofNat m=>
  obtain rfl:m=j:=i.2.1.elim (λq=>q.2) λq=>absurd q.1 (Int.not_lt.mpr (Int.natCast_nonneg m))
  show wpAny _ _ ((seqItemAt l m >>= λr=>pure (r.map (m,·))) >>= _) _ _ s
  refine bK (bK (wpAny_seqItemAt hl rfl (wpAny_pure ?_)))
  rw[at_]
  exact h9
 |negSucc m=>
  show wpAny _ _ ((Builtin.List.listItems (.ref l) >>= λxs=>pure ((seqIndex? (Int.negSucc m) xs.size).bind λi=>xs[i]?.map (i,·))) >>= _) _ _ s
  refine bK (bK ?_)
  show wpAny _ _ (seqItems? (.ref l) >>= _) _ _ s
  refine bK (wpAny_seqItems hl rfl (wpAny_pure (wpAny_pure ?_)))
  rw[i.1,Option.bind_some,at_]
  exact h9
noncomputable def SU (c:Cx)(n:Nat)(hp:List O):(o i x:V)→Option (Rs Unit λ_ hp'=>∀ A W s u v w,At c n A W hp s→VR c.P W o u→VR c.P W i v→VR c.P W x w→c.wp A (setItem u v w) (Post c qT W hp s () hp') s)
 |.ref l,.dat (.int k),x=>tk (hp[l]?.bind O.lstE) λxs e=>tk (AZ k xs.length) λj e2=>some ⟨(),hp.set l (.lst (xs.set j x)),eR k,λg _ W _ u _ _ z h (.mk _) hx=>match z.rel.lst (dY e)with
  |.mk us m I d=>by
   rw[show u=.ref (W.ρ l)from h.2]
   exact CI I (by rw[List.size_toArray,R2.len d];exact e2) g (f7 (t:=_) z (dY e) I (R2.set d hx) (by rw[List.setIfInBounds_toArray]) trivial)⟩
 |.ref l,.dat (.str y),x=>tk (hp[l]?.bind O.nsE) λes e=>some ⟨(),hp.set l (.ns (pt es y x)),Nat.ble es.length lim,λg _ W s u _ _ z h (.mk t) hx=>match z.rel.ns (fZ e)with
  |.mk en k gd E nd=>(ER.rows E).elim λks r=>by
   rw[show u=.ref (W.ρ l)from h.2]
   refine wpAny_setItem_pairs (knd:=SK c) (beq_self_eq_true _:Value.isStrOf (st y) (.str (st y) t)=true) ⟨_,_,k,gd,⟨rfl,rfl,rfl⟩,rfl,E.keysOf,r.2,by rw[KR.keys r.1];exact g9 nd⟩ (λh' d' sb=>?_) (by rw[R2.len r.1];exact bC g)
   have q:=z.rel.change (o':=.ns (pt es y x)) (fZ e) (λb ne=>sb.2 b ne) (kS d' (hZ hx r.1 nd) (g6 y x nd)) (z.rel.nof (fZ e) λ_=>nofun)
   exact .mk W q.1 (.of q.2) trivial⟩
 |_,_,_=>none
end
end
section
open PySem.Builtin.Str PySem.StrLaws
noncomputable def gR (y z:List Nat):Nat→List Nat→List Nat
 |_,[]=>[]
 |0,c::r=>if y.isPrefixOf (c::r)then z++gR y z (y.length-1) r else c::gR y z 0 r
 |k+1,_::r=>gR y z k r
theorem xS (y z:List Nat)(k:Nat):gR y z k []=[]:=by cases k <;>rfl
theorem sS (y z:List Nat):∀ (k:Nat) (l:List Nat),gR y z k l=gR y z 0 (l.drop k)
 |0,l=>rfl
 |k+1,[]=>by simp[xS]
 |k+1,_::r=>by rw[gR,sS y z k r];rfl
theorem m9 (y z:List Nat):∀ (n:Nat) (l:List Nat),(∀ k,k<n→y.isPrefixOf (l.drop k)=false)→gR y z 0 l=l.take n++gR y z 0 (l.drop n)
 |0,l,_=>by simp
 |n+1,[],_=>rfl
 |n+1,c::r,h=>by
  have h0:=h 0 (by lia)
  rw[gR,if_neg (by rw[List.drop_zero]at h0;rw[h0];simp),m9 y z n r λk hk=>h (k+1) (by lia)]
  simp
theorem xT {y z l:List Nat}(hy:y≠[])(h:y.isPrefixOf l=true):gR y z 0 l=z++gR y z 0 (l.drop y.length):=by
 cases l with
 |nil=>cases y with
  |nil=>exact absurd rfl hy
  |cons _ _=>simp at h
 |cons c r=>
  rw[gR,if_pos h,sS]
  cases y with
  |nil=>exact absurd rfl hy
  |cons a y=>simp
theorem xU (y l:List Nat):y.isPrefixOf l=(l.take y.length==y):=by
 rw[Bool.eq_iff_iff,List.isPrefixOf_iff_prefix,beq_iff_eq,List.prefix_iff_eq_take]
 exact⟨λh=>h.symm,λh=>h.symm⟩
theorem q6 {y:List Nat}(h:y≠[]):0<y.length:=by cases y <;>simp_all
theorem dZ (x:List Nat):(st x).length=x.length:=by simp[st,Str.length]
theorem cI (x:List Nat):(st x).cps.toList=x:=by simp[st]
theorem kW {x y:List Nat}{i:Nat}(hy:y≠[]):PySem.StrLaws.At (st x) (st y) (st x).length i↔y.isPrefixOf (x.drop i)=true:=by
 unfold PySem.StrLaws.At
 rw[subAt_eq,dZ,dZ,cI,cI,xU]
 refine⟨λh=>h.2,λh=>⟨?_,h⟩⟩
 have h:=beq_iff_eq.mp h
 have hl:=congrArg List.length h
 rw[List.length_take,List.length_drop]at hl
 have:0<y.length:=q6 hy
 omega
theorem pR (z p q:Str)(r:List Str):(Str.join z (p::q::r)).cps.toList=p.cps.toList++z.cps.toList++(Str.join z (q::r)).cps.toList:=by
 show(p++z++Str.join z (q::r)).cps.toList=_
 simp[Str.cps_append]
theorem pS (x y z:List Nat)(hy:y≠[]):∀ (cuts:List Nat) (a f:Nat),ChainG (st x) (st y) (st x).length a cuts f→(∀ k,f≤k→¬ PySem.StrLaws.At (st x) (st y) (st x).length k)→
  (Str.join (st z) (partsFrom (st x) (st y).length a cuts)).cps.toList=gR y z 0 (x.drop a)
 | [],a,f,h,hn=>by
  have h:f=a:=h
  subst h
  show(strSub (st x) f (st x).length).cps.toList=_
  rw[strSub_toList,cI,dZ,List.take_of_length_le (by simp)]
  rw[m9 y z (x.drop f).length (x.drop f) λk _=>?_]
  ·rw[List.drop_of_length_le (A7 _),xS,List.take_of_length_le (A7 _),B1]
  ·have:=hn (f+k) (by lia)
   rw[kW hy,← List.drop_drop]at this
   exact Bool.eq_false_iff.mpr this
 |c::r,a,f,h,hn=>by
  obtain⟨h1,h2,h3,h4⟩:=h
  have ih:=pS x y z hy r (c+(st y).length) f h4 hn
  obtain⟨p,q,e⟩:=partsFrom_ne (st x) (st y).length (c+(st y).length) r
  show(Str.join (st z) (strSub (st x) a c::partsFrom (st x) (st y).length (c+(st y).length) r)).cps.toList=_
  rw[e]at ih ⊢
  rw[pR,ih,strSub_toList,cI,cI]
  rw[m9 y z (c-a) (x.drop a) λk hk=>?_]
  ·rw[List.drop_drop,show a+(c-a)=c by lia,xT hy ((kW hy).mp h2),List.drop_drop,dZ]
   simp
  ·have:=h3 (a+k) (by lia) (by lia)
   rw[kW hy,← List.drop_drop]at this
   exact Bool.eq_false_iff.mpr this
set_option tactic.hygienic true in
theorem vC (x y z:List Nat)(hy:y≠[]):(Txt.replace (st x) (st y) (st z)).cps.toList=gR y z 0 x:=by
 obtain⟨f,h1,h2⟩:=occ_tight (st x) (st y) (by rw[dZ];exact q6 hy)
 have key:=pS x y z hy _ 0 f h1 h2
 unfold Txt.replace
 split
 ·rename_i hc
  have:((st y).length==0)=false:=by rw[dZ];simp[hy]
  rw[this]at hc
  simp only[Bool.false_and,Bool.or_false]at hc
  have hc:=List.isEmpty_iff.mp hc
  rw[hc]at key
  rw[List.drop_zero]at key
  rw[← key]
  show(st x).cps.toList=(strSub (st x) 0 (st x).length).cps.toList
  rw[strSub_toList,cI,dZ];simp
 ·rw[glued_eq_join,partsBetween_eq,key];simp
theorem mM {y z:List Nat}(hy:y≠[])(h:z.length≤y.length):∀ (n:Nat) (l:List Nat),l.length≤n→(gR y z 0 l).length≤l.length
 |0,l,hn=>by have:l=[]:=List.length_eq_zero_iff.mp (by lia);subst this;simp[gR]
 |n+1,[],_=>by simp[gR]
 |n+1,c::r,hn=>by
  have hl:0<y.length:=q6 hy
  cases e:y.isPrefixOf (c::r)with
  |true=>
   rw[xT hy e]
   have he:(List.take y.length (c::r)).length=y.length:=by
    rw[xU]at e
    rw[beq_iff_eq.mp e]
   rw[List.length_take]at he
   have:=mM hy h n ((c::r).drop y.length) (by rw[List.length_drop];simp only[B3]at *;lia)
   rw[A2]
   rw[List.length_drop]at this
   simp only[B3]at *
   lia
  |false=>
   rw[gR,if_neg (by rw[e];simp)]
   have:=mM hy h n r (by simp only[B3]at hn;lia)
   simp only[B3]
   lia
theorem pT:∀ (ss:List (List Nat)),(Str.join (st []) (ss.map st)).cps.toList=ss.flatten
 | []=>rfl
 | [x]=>by show(st x).cps.toList=_;simp[st]
 |x::y::r=>by
  have ih:=pT (y::r)
  rw[List.map_cons,List.map_cons,pR]
  rw[List.map_cons]at ih
  rw[ih,cI,cI]
  simp
theorem CJ (ss:List (List Nat)):(Txt.join (st []) (ss.map st)).cps.toList=ss.flatten:=by
 unfold Txt.join
 rw[glued_eq_join,pT]
theorem Ab (ss:List (List Nat))(h:ss.flatten.length≤1048576):JoinOk (st []) (ss.map st)=true:=by
 have key:∀ (ss:List (List Nat)) (k:Nat),(ss.map st).foldl (λa p=>a+p.length+(st []).length) k=k+ss.flatten.length:=by
  intro ss
  induction ss with
  |nil=>intro k;simp
  |cons x r ih=>
   intro k
   rw[List.map_cons,List.foldl_cons,ih,dZ,dZ]
   simp;lia
 unfold JoinOk
 rw[List.foldl_toArray]
 have e:(ss.map st).foldl (· +·.length+(st []).length) 0=ss.flatten.length:=by
  have:=key ss 0
  simpa using this
 unfold tooLong
 rw[e]
 have:sizeLine=16777216:=by decide
 simp only[this,Bool.not_eq_true',decide_eq_false_iff_not]
 lia
end
section
noncomputable def pU:Pos:=⟨0,0,0,0⟩
noncomputable def iS:Expr:=.Constant .none 0 pU
noncomputable def jQ (r:Expr):Str×Pos:=if h:r.ctorIdx=23 then Expr.Name.elim (motive_1:=λ_=>Str×Pos) r h λx p=>(x,p)else(⟨#[]⟩,pU)
noncomputable def NZ (r:Expr):Expr×Str×Pos:=if h:r.ctorIdx=20 then Expr.Attribute.elim (motive_1:=λ_=>Expr×Str×Pos) r h λe x p=>(e,x,p)else(iS,⟨#[]⟩,pU)
noncomputable def nA (r:Expr):Expr×List Expr×Pos:=if h:r.ctorIdx=16 then Expr.Call.elim (motive_1:=λ_=>Expr×List Expr×Pos) r h λf a _ p=>(f,a,p)else(iS,[],pU)
noncomputable def SV (r:Expr):Nat×Pos:=if h:r.ctorIdx=19 then Expr.Constant.elim (motive_1:=λ_=>Nat×Pos) r h λ_ n p=>(n,p)else(0,pU)
noncomputable def Xe (r:Expr):Expr×Expr×Pos:=if h:r.ctorIdx=21 then Expr.Subscript.elim (motive_1:=λ_=>Expr×Expr×Pos) r h λe i p=>(e,i,p)else(iS,iS,pU)
noncomputable def Na (r:Expr):Expr×Pos:=if h:r.ctorIdx=26 then Expr.Slice.elim (motive_1:=λ_=>Expr×Pos) r h λ_ _ x p=>(x.getD iS,p)else(iS,pU)
noncomputable def Nb (r:Expr):Expr×Expr:=if h:r.ctorIdx=2 then Expr.BinOp.elim (motive_1:=λ_=>Expr×Expr) r h λa _ b _=>(a,b)else(iS,iS)
noncomputable def Hg (r:Expr):Expr×Pos:=if h:r.ctorIdx=13 then Expr.Yield.elim (motive_1:=λ_=>Expr×Pos) r h λx p=>(x.getD iS,p)else(iS,pU)
noncomputable def Ru (r:Expr):Expr×Comprehension×Scope×Pos:=if h:r.ctorIdx=8 then Expr.ListComp.elim (motive_1:=λ_=>Expr×Comprehension×Scope×Pos) r h λe c s p=>(e,c.headD ⟨iS,iS,[],0⟩,s,p)else(iS,⟨iS,iS,[],0⟩,default,pU)
noncomputable def sT (s:Stmt):List Expr×Expr×Pos:=if h:s.ctorIdx=5 then Stmt.Assign.elim (motive_2:=λ_=>List Expr×Expr×Pos) s h λa r p=>(a,r,p)else([],iS,pU)
noncomputable def CK (s:Stmt):Expr×Expr×List Stmt×Pos:=if h:s.ctorIdx=9 then Stmt.For.elim (motive_2:=λ_=>Expr×Expr×List Stmt×Pos) s h λa i b _ p=>(a,i,b,p)else(iS,iS,[],pU)
noncomputable def Ac (s:Stmt):Expr×List Stmt×Pos:=if h:s.ctorIdx=11 then Stmt.While.elim (motive_2:=λ_=>Expr×List Stmt×Pos) s h λt b _ p=>(t,b,p)else(iS,[],pU)
noncomputable def SW (s:Stmt):List Stmt×List Stmt:=if h:s.ctorIdx=12 then Stmt.If.elim (motive_2:=λ_=>List Stmt×List Stmt) s h λ_ b e _=>(b,e)else([],[])
noncomputable def Nc (s:Stmt):Expr×Pos:=if h:s.ctorIdx=24 then Stmt.Expr.elim (motive_2:=λ_=>Expr×Pos) s h λe p=>(e,p)else(iS,pU)
noncomputable def SY (s:Stmt):Expr×Pos:=if h:s.ctorIdx=16 then Stmt.Raise.elim (motive_2:=λ_=>Expr×Pos) s h λe _ p=>(e.getD iS,p)else(iS,pU)
noncomputable def Hh (s:Stmt):List Stmt×List ExceptHandler×Pos:=if h:s.ctorIdx=17 then Stmt.Try.elim (motive_2:=λ_=>List Stmt×List ExceptHandler×Pos) s h λb k _ _ p=>(b,k,p)else([],[],pU)
noncomputable def SZ (s:Stmt):Option (Str×Arguments×Scope×List Stmt):=if h:s.ctorIdx=0 then Stmt.FunctionDef.elim (motive_2:=λ_=>Option (Str×Arguments×Scope×List Stmt)) s h λn a b _ _ _ sc _ _ _=>some (n,a,sc,b)else none
noncomputable def Sa (s:Stmt):Option (Str×List Stmt):=if h:s.ctorIdx=2 then Stmt.ClassDef.elim (motive_2:=λ_=>Option (Str×List Stmt)) s h λn _ _ b _ _ _ _ _ _ _=>some (n,b)else none
noncomputable def Nd:Comprehension→Expr×Expr×List Expr
 |⟨a,b,t,_⟩=>(a,b,t)
noncomputable def Xf:ExceptHandler→Expr×List Stmt×Pos
 |.ExceptHandler t _ b p=>(t.getD iS,b,p)
noncomputable def bV (b:List Stmt)(k:Nat):Stmt:=b[k]?.getD (.Pass pU)
section
variable {P:Expr→Type}(r:Expr)(d:∀ y,P y)
noncomputable def iT (f:∀ x p,P (.Name x p)):P r:=if h:r.ctorIdx=23 then Expr.Name.elim (motive_1:=P) r h f else d r
noncomputable def pV (f:∀ e x p,P (.Attribute e x p)):P r:=if h:r.ctorIdx=20 then Expr.Attribute.elim (motive_1:=P) r h f else d r
noncomputable def xV (f:∀ e i p,P (.Subscript e i p)):P r:=if h:r.ctorIdx=21 then Expr.Subscript.elim (motive_1:=P) r h f else d r
noncomputable def sU (f:∀ rs k p,P (.Tuple rs k p)):P r:=if h:r.ctorIdx=25 then Expr.Tuple.elim (motive_1:=P) r h f else d r
noncomputable def Sb (f:∀ a b s p,P (.Slice a b s p)):P r:=if h:r.ctorIdx=26 then Expr.Slice.elim (motive_1:=P) r h f else d r
noncomputable def Xg (f:∀ e g s p,P (.ListComp e g s p)):P r:=if h:r.ctorIdx=8 then Expr.ListComp.elim (motive_1:=P) r h f else d r
noncomputable def Sc (f:∀ g rs ks p,P (.Call g rs ks p)):P r:=if h:r.ctorIdx=16 then Expr.Call.elim (motive_1:=P) r h f else d r
noncomputable def MD (f:∀ x k p,P (.Constant (.str x) k p)):P r:=if h:r.ctorIdx=19 then Expr.Constant.elim (motive_1:=P) r h λc k p=>match c with
 |.str x=>f x k p
 |c=>d (.Constant c k p)else d r
end
end
section
open PySem.Builtin.Str (strSliceIndices occurrences lastOccurrence)
inductive Keep (M:Model) (h:Heap) (f:Value):Prop
 |mk (k:Keeper) (o:k=Keeper.frame∨k=Keeper.machine∨k=Keeper.boundFrame) (l:Looks M h (keeperOf f) k)
theorem Keep.of {M:Model}{h:Heap}{f:Value}:(∃ k,(k=Keeper.frame∨k=Keeper.machine∨k=Keeper.boundFrame)∧Looks M h (keeperOf f) k)→Keep M h f
 |⟨k,o,l⟩=>.mk k o l
theorem Keep.blt {M:Model}{h:Heap}(i:String):Keep M h (.builtin i):=.mk .machine (.inr (.inl rfl)) .now
theorem Keep.typ {M:Model}{h:Heap}(i:String):Keep M h (.type i):=.mk .machine (.inr (.inl rfl)) .now
set_option tactic.hygienic true in
theorem jR {K:Frag}{a:Nat}(h:fnIn K a=true):keepIn K (.ref a)=true:=by
 unfold fnIn at h
 unfold keepIn
 split at h
 ·rename_i e;dsimp only;rw[e]
 ·cases h
noncomputable def xW:Nm:=aAr
theorem Hj:st xW=("__init__" :Str):=by decide+kernel
noncomputable def vD (c:Cx)(n:Nat)(hp:List O)(f:V)(args:List V)(v:V)(hp':List O):Prop:=
 ∀ A W s fv vals,At c n A W hp s→VR c.P W f fv→VRs c.P W args vals→Keep c.M s.heap fv∧c.wp A (call fv vals) (Post c c.VT W hp s v hp') s
section
variable {c:Cx}{n:Nat}{A:Around}{W:Wd}{hp hp':List O}{s:Shared}{v:V}{args:List V}
theorem h8 {f:Value}{vals:List Value}(h:codeAny c.M A (.call f ⟨vals,[]⟩) (λr s'=>RetOk (Post c c.VT W hp s v hp') s' r) s):c.wp A (call f vals) (Post c c.VT W hp s v hp') s:=
 wpAny_call (codeAny_mono h λ_ _ q=>(by rcases q with⟨_,p⟩;exact p))
theorem Sd {a:Nat}(h:CallOk c n a args hp v hp'):vD c n hp (.top a) args v hp':=λA W s fv vals z hf hv=>(show fv=.ref a from hf) ▸ ⟨.of (keeps_K (jR h.fn) _ z.In),h8 (h.run A W s vals _ .pos z hv)⟩
theorem Nf {f l:Nat}(h:CallOk c n f (.ref l::args) hp v hp'):vD c n hp (.mth f l) args v hp':=λA W s _ vals z (.mk _ lt hz) hv=>
 ⟨.of (keeps_M h.fn _ ⟨z.rel.fz _ _ hz,z.In⟩),h8 (method_call (z.rel.fz _ _ hz) (h.run A W s _ _ .pos z (.mk ⟨lt,rfl⟩ hv)))⟩
theorem Ng {a i:Nat}{cl:Cl}(hc:qW c.G.cls a=some cl)(hi:lk cl.meths xW=some i)(h:CallOk c n i (.ref (hp.length+1)::args) (hp++[.ns [],.ins a hp.length]) (.dat .non) hp'):vD c (n+1) hp (.top a) args (.ref (hp.length+1)) hp':=λA W s fv vals z hf hv=>by
 rw[show fv=.ref a from hf]
 have C:=Bw hc
 have KI:=z.In
 have m:=C.meths xW i hi
 have mf:=m.find
 rw[Hj]at mf
 refine⟨.of (keeps_K C.keep _ KI),h8 ?_⟩
 obtain⟨hh,g,d,t,os⟩:=s
 refine make_core (makes_of KI C.makes) (looks_findIn KI mf) (λself=>bind_fn KI self m.type) (.inl rfl) ?_
 have x:=z.rel.alloc (o:=.ns []) (ob:=emptyDict) ⟨List.nodup_nil,.mk [] 0 rfl⟩
 have lt:hp.length < (W.push hh.objs.size).n:=z.rel.len▸Nat.lt_succ_self _
 have y:=x.1.alloc (o:=.ins a hp.length) (ob:=instObj a hh.objs.size) (by
  have e:((W.push hh.objs.size).push (hh.push emptyDict).objs.size).ρ hp.length=hh.objs.size:=((Wd.le_push _ _).ρ _ lt).trans (z.rel.push_at _)
  exact Eq.mp (congrArg (λq=>OIns ((W.push hh.objs.size).push (hh.push emptyDict).objs.size) a hp.length ⟨.ref a,some q,.plain,#[]⟩) e) (.mk (Nat.lt_succ_of_lt lt)))
 rw[B2]at y
 rw[Heap.size_push]at y
 have E:=x.2.trans y.2
 have at_:((W.push hh.objs.size).push (hh.objs.size+1)).ρ (hp.length+1)=hh.objs.size+1:=if_pos (congrArg (· +1) z.rel.len.symm)
 have lt2:hp.length+1 < ((W.push hh.objs.size).push (hh.objs.size+1)).n:=Nat.succ_lt_succ lt
 have hw:Code.weight (.builtin "type.__call__" ⟨.ref a::vals,[]⟩)=1:=by kernel_rfl
 have hu:Code.cUnits (.builtin "type.__call__" ⟨.ref a::vals,[]⟩)=1:=by kernel_rfl
 have z':At c n (A.under (.builtin "type.__call__" ⟨.ref a::vals,[]⟩)) _ (hp++[.ns [],.ins a hp.length]) ⟨(hh.push emptyDict).push (instObj a hh.objs.size),g,d,t,os⟩:=
  ⟨z.room.under (hw▸by decide) (hu▸by decide),y.1,λb o e=>E.le.fz b o (z.kin b o e),z.tk,(z.fs.under (by cases A.frames <;>rfl)).ext E⟩
 refine codeAny_mono (h.run _ _ _ (.ref (hh.objs.size+1)::vals) _ .pos z' (.mk ⟨lt2,congrArg Value.ref at_.symm⟩ (VRs.mono E.le hv))) λr s' q=>?_
 match q with
 |.mk u (.mk W' R' L x')=>
  obtain rfl:u=.none:=x'
  exact⟨rfl,.mk _ (.mk W' R' ⟨E.trans L.e,L.g,L.o⟩ ⟨A6 lt2 L.le.n,congrArg Value.ref (((L.le.ρ _ lt2).trans at_).symm)⟩)⟩
noncomputable def V.intE:V→Option Int
 |.dat (.int i)=>some i
 |_=>none
noncomputable def V.strE:V→Option Nm
 |.dat (.str x)=>some x
 |_=>none
theorem dP {P:Params}{v:V}{i:Int}{u:Value}(e:v.intE=some i)(h:VR P W v u):∃ t,u=.int i t:=by
 cases v with
 |dat d=>cases d with
  |int j=>exact match u,(h:IsI j u)with|_,.mk t=>⟨t,A9 e▸rfl⟩
  |_=>cases e
 |_=>cases e
theorem eX {P:Params}{v:V}{x:Nm}{u:Value}(e:v.strE=some x)(h:VR P W v u):∃ t,u=.str (st x) t:=by
 cases v with
 |dat d=>cases d with
  |str y=>exact match u,(h:IsS y u)with|_,.mk t=>⟨t,A9 e▸rfl⟩
  |_=>cases e
 |_=>cases e
theorem bZ {α β:Type}{R:α→β→Prop}{x:α}{us:List β}:R2 R [x] us→∃ u,us=[u]∧R x u
 |.mk a r=>⟨_,by rw[show _=[]from r],a⟩
theorem gH {α β:Type}{R:α→β→Prop}{x y:α}{us:List β}:R2 R [x,y] us→∃ u v,us=[u,v]∧R x u∧R y v
 |.mk a r=>(bZ r).elim λv q=>⟨_,v,by rw[q.1],a,q.2⟩
theorem grown {h':Heap}{t:Nat}{RR:RT V Value}{u:Value}(z:At c n A W hp s)(hk:∀ b o,s.heap.get? b=some o→h'.get? b=some o)(x:RR W v u):Post c RR W hp s v hp u {s with heap:=h',toks:=t}:=
 .mk W (z.rel.via (k:=id) z.rel.len (λa o e=>hk _ _ (z.rel.fz a o e)) z.rel.nf (λ_ o v=>.mk o v rfl ((z.rel.obj _ _ v).imp (λ_=>hk _ _) λ_=>id) (z.rel.cold _ _ v)) λ_ _ _ _=>id)
  ⟨⟨.refl W,λa o e=>⟨λ_=>.here (hk a o e),id,.here (hk a o e),λ_=>.inl⟩⟩,.refl _,rfl⟩ x
set_option genCtorIdx true in
inductive Bi where|len|ord|chr|max
noncomputable def Nh (i:String):Option Bi:=if i="len" then some .len else if i="ord" then some .ord else if i="chr" then some .chr else if i="max" then some .max else none
noncomputable def Hk:Bi→String
 |.len=>"len" |.ord=>"ord" |.chr=>"chr" |.max=>"max"
set_option tactic.hygienic true in
theorem Se {i:String}{b:Bi}(e:Nh i=some b):i=Hk b:=by
 unfold Nh at e
 split at e
 ·rename_i h;exact A9 e▸h
 split at e
 ·rename_i h;exact A9 e▸h
 split at e
 ·rename_i h;exact A9 e▸h
 split at e
 ·rename_i h;exact A9 e▸h
 ·cases e
noncomputable def Sf (a b:Int):Int:=match aX a b with
 |true=>b
 |false=>a
noncomputable def ME:Int→Bool
 |.ofNat n=>Nat.ble n 1114111
 |.negSucc _=>false
theorem CM {i:Int}(h:ME i=true):0≤i∧i≤1114111:=by
 cases i with
 |ofNat n=>exact⟨Int.natCast_nonneg n,Int.ofNat_le.mpr (A3 h)⟩
 |negSucc n=>cases h
noncomputable abbrev BT (c:Cx)(n:Nat)(hp:List O)(b:Bi)(args:List V):V→List O→Prop:=λv hp'=>ZT c n hp (λus=>call (.builtin (Hk b)) us) c.VT args v hp'
noncomputable def Xh (c:Cx)(n:Nat)(hp:List O)(v:V):(b:Bi)→Option (Rs V (BT c n hp b [v]))
 |.len=>AR v.strE (λx e=>some ⟨.dat (.int x.length),hp,Nat.ble x.length lim,λg _ _ _ _ z h=>(bZ h).elim λu q=>(eX e q.2).elim λt y=>by
   rw[q.1,y];exact PySem.P.len_str (x:=st x) (Int.not_le.mpr (jP g)) (eS z)⟩)
  λ_=>tk (items v hp) λxs e=>some ⟨.dat (.int xs.length),hp,Nat.ble xs.length lim,λg _ _ _ _ z h=>(bZ h).elim λu q=>by
   rw[q.1]
   exact match u,aP z.rel q.2 e with
   |_,.mk a us k I d=>have l:us.toArray.size=xs.length:=List.size_toArray.trans (R2.len d);call_len_list ⟨_,I,rfl,k,rfl⟩ (by rw[l];exact jP g) (by rw[l];exact eS z)⟩
 |.ord=>tk v.strE λx e=>match x,e with
  | [a],e=>some ⟨.dat (.int a),hp,true,λ_ _ _ _ _ z h=>(bZ h).elim λu q=>(eX e q.2).elim λt y=>by
    rw[q.1,y];exact PySem.P.ord_of_char (eS z)⟩
  |_,_=>none
 |.chr=>tk v.intE λi e=>some ⟨.dat (.str [i.toNat]),hp,ME i,λg _ _ _ _ z h=>(bZ h).elim λu q=>(dP e q.2).elim λt y=>by
   rw[q.1,y];exact chr_of_range (CM g).1 (CM g).2 (iR (x:=[i.toNat]) z)⟩
 |.max=>none
noncomputable def Xi (c:Cx)(n:Nat)(hp:List O)(v w:V):(b:Bi)→Option (Rs V (BT c n hp b [v,w]))
 |.max=>tk v.intE λa e=>tk w.intE λb e2=>some ⟨.dat (.int (Sf a b)),hp,true,λ_ _ _ _ _ z h=>(gH h).elim λu q=>q.elim λu' q=>(dP e q.2.1).elim λt y=>(dP e2 q.2.2).elim λt' y'=>by
   rw[q.1,y,y']
   refine max_two_ints z.room.hd λh' k hk=>?_
   unfold Sf
   rw[← cN]
   by_cases q:b>a
   ·rw[if_pos q,decide_eq_true q];exact grown z hk (.mk t')
   ·rw[if_neg q,decide_eq_false q];exact grown z hk (.mk t)⟩
 |_=>none
noncomputable def pBi (c:Cx)(n:Nat)(hp:List O)(b:Bi):(args:List V)→Option (Rs V (BT c n hp b args))
 | [v]=>Xh c n hp v b
 | [v,w]=>Xi c n hp v w b
 |_=>none
noncomputable def bJ (a:Int):Nm:=(PySem.Str.ofString (toString a)).cps.toList
noncomputable abbrev TT (c:Cx)(n:Nat)(hp:List O)(t:String)(args:List V):V→List O→Prop:=λv hp'=>ZT c n hp (λus=>call (.type t) us) c.VT args v hp'
noncomputable def HH {α:Type}(b:Bool)(f:b=true→α)(g:α):α:=match b,f with
 |true,f=>f rfl
 |false,_=>g
theorem Hl {c:Cx}{n:Nat}{hp:List O}{a:Int}{A:Around}{W:Wd}{s:Shared}{t:Tok}(z:At c n A W hp s)(g:Nat.ble a.natAbs 2000000=true):c.wp A (call (.type "str") [.int a t]) (Post c c.VT W hp s (.dat (.str (bJ a))) hp) s:=
 PySem.P.str_of_int (Classical.byCases (λh0:a.natAbs=0=>h0 ▸ (by decide)) λh0=>(Nat.log2_lt h0).mpr (Nat.lt_of_le_of_lt (A3 g) (A6 (by decide:2000000<2 ^ 64) (Nat.pow_le_pow_right (n:=2) (i:=64) (j:=1920) (by decide) (by decide))))) (iR (x:=bJ a) z)
noncomputable def Xj (c:Cx)(n:Nat)(hp:List O)(t:String):(args:List V)→Option (Rs V (TT c n hp t args))
 | [v]=>tk v.intE λb e=>HH (decide (t="str")) (λq=>some ⟨.dat (.str (bJ b)),hp,Nat.ble b.natAbs 2000000,λg _ _ _ _ z h=>(bZ h).elim λu q2=>(dP e q2.2).elim λ_ y=>by
   rw[q2.1,y,of_decide_eq_true q];exact Hl z g⟩) <| some ⟨.rng 0 b,hp,decide (t="range"),λg _ _ _ _ z h=>(bZ h).elim λu q=>(dP e q.2).elim λ_ y=>by
   rw[q.1,y,of_decide_eq_true g];exact call_range_1 (q5 z rfl (.mk _ _ _ _ (if_pos rfl)))⟩
 | [v,w]=>tk v.intE λa e=>tk w.intE λb e2=>some ⟨.rng a b,hp,decide (t="range"),λg _ _ _ _ z h=>(gH h).elim λu q=>q.elim λu' q=>(dP e q.2.1).elim λ_ y=>(dP e2 q.2.2).elim λ_ y'=>by
   rw[q.1,y,y',of_decide_eq_true g];exact call_range_2 (q5 z rfl (.mk _ _ _ _ (if_pos rfl)))⟩
 |_=>none
set_option genCtorIdx true in
inductive Bm where|join|count|rfind|append|pop|starts|split
noncomputable def Hm:Bm→String
 |.join=>"str.join" |.count=>"str.count" |.rfind=>"str.rfind" |.append=>"list.append" |.pop=>"list.pop" |.starts=>"str.startswith" |.split=>"str.split"
inductive MC where
 |fn (f l:Nat)|fnT (f a:Nat)|val (v:V)|lst (l:Nat) (b:Bm)|str (s:List Nat) (b:Bm)
noncomputable def McR (P:Params):RT MC (Value×List Value):=λW m x=>match m with
 |.fn f l=>l<W.n∧x=(.ref f,[.ref (W.ρ l)])
 |.fnT f a=>x=(.ref f,[.ref a])
 |.val v=>∃ u,x=(u,[])∧VR P W v u
 |.lst l b=>l<W.n∧x=(.builtin (Hm b),[.ref (W.ρ l)])
 |.str s b=>∃ t,x=(.builtin (Hm b),[.str (st s) t])
theorem McR.mono {P:Params}{W':Wd}(l:W.le W'){x:Value×List Value}:∀ {m:MC},McR P W m x→McR P W' m x
 |.fn _ i,h=>⟨A6 h.1 l.n,l.ρ i h.1▸h.2⟩
 |.fnT _ _,h=>h
 |.val _,⟨u,e,h⟩=>⟨u,e,h.mono l⟩
 |.lst i _,h=>⟨A6 h.1 l.n,l.ρ i h.1▸h.2⟩
 |.str _ _,h=>h
noncomputable def MF:Nm:=[106,111,105,110]
noncomputable def CN:Nm:=[99,111,117,110,116]
noncomputable def CS:Nm:=[114,102,105,110,100]
noncomputable def xX:Nm:=[97,112,112,101,110,100]
noncomputable def Sh:Nm:=[112,111,112]
noncomputable def xY:Nm:=[115,116,97,114,116,115,119,105,116,104]
noncomputable def CU:Nm:=[115,112,108,105,116]
theorem CW:st CU=("split" :Str):=by decide+kernel
theorem Ad:st xY=("startswith" :Str):=by decide+kernel
noncomputable def pA:Nm→Nm→Bool
 | [],_=>true
 |a::r,x=>match x with
  | []=>false
  |b::q=>match Nat.beq a b with
   |true=>pA r q
   |false=>false
theorem CY:∀ (y x:Nm),(decide (y.length≤x.length)&&(x.take y.length==y))=pA y x
 | [],x=>by rw[List.length_nil,List.take_zero];rfl
 |a::r,[]=>rfl
 |a::r,b::q=>by
  have ih:=CY r q
  rw[B3,B3,List.take_succ_cons]
  show(_&&((b==a)&&(q.take r.length==r)))=(match Nat.beq a b with|true=>pA r q|false=>false)
  cases e:Nat.beq a b with
  |true=>
   rw[B0 e,beq_self_eq_true,Bool.true_and,← ih]
   exact congrArg (· &&_) (decide_eq_decide.mpr (Nat.succ_le_succ_iff))
  |false=>
   have ne:(b==a)=false:=beq_eq_false_iff_ne.mpr λq=>by rw[q,Nat.beq_refl]at e;cases e
   rw[ne,Bool.false_and,Bool.and_false]
theorem Ni (x y:Nm):Txt.startswith (st x) (st y)=pA y x:=by
 rw[← CY]
 unfold Txt.startswith
 rw[PySem.StrLaws.subAt_eq,cI,cI,Nat.zero_add]
 rfl
theorem Hn:st MF=("join" :Str):=by decide+kernel
theorem Ca:st CN=("count" :Str):=by decide+kernel
theorem Cb:st CS=("rfind" :Str):=by decide+kernel
theorem vE:st xX=("append" :Str):=by decide+kernel
theorem Nj:st Sh=("pop" :Str):=by decide+kernel
noncomputable abbrev GT (c:Cx)(n:Nat)(hp:List O)(o:V)(m:Nm):MC→List O→Prop:=λk hp'=>∀ pl,Bs c n hp (λu=>getMethod u (st m) pl) (McR c.P) o k hp'
section
variable {c:Cx}{n:Nat}{A:Around}{W:Wd}{hp hp':List O}{s:Shared}{u:Value}{m:Nm}{l:Nat}{I:Ins}{cl:Cl}{pl:Sem Bool}(z:At c n A W hp s)(h:VR c.P W (.ref l) u)
include z h
theorem Ho {y:V}(e:sM hp l=some I)(e2:qW c.G.cls I.c=some cl)(e3:lk I.es m=some y)(g:(aO m cl.fields&&y.plain)=true):c.wp A (getMethod u (st m) pl) (Post c (McR c.P) W hp s (.val y) hp) s:=match i7 z.rel e,Bw e2,A0 g with
 |.mk en k lv nd E gd a,C,⟨g1,g2⟩=>(E.find e3).elim λw r=>by
  rw[show u=.ref (W.ρ l)from h.2]
  exact method_usual z.In a (plainGet_of C.get).1 (plainGet_of C.get).2 (C.fields m g1) rfl (get_value z.In a (plainGet_of C.get).1 (findObj_own C.dict (C.fields m g1) rfl (E.look _ _ _ _ _ r.1)) (V.plain_handed g2 r.2) (.tok z ⟨_,rfl,r.2⟩))
theorem Nk {f:Nat}(e:sM hp l=some I)(e2:qW c.G.cls I.c=some cl)(e3:lk I.es m=none)(e4:lk cl.meths m=some f):c.wp A (getMethod u (st m) pl) (Post c (McR c.P) W hp s (.fn f l) hp) s:=match i7 z.rel e,Bw e2 with
 |.mk en k lv nd E gd a,C=>by
  rw[show u=.ref (W.ρ l)from h.2]
  have q:=C.meths m f e4
  exact method_fn z.In a (plainGet_of C.get).1 (plainGet_of C.get).2 q.find q.type (by unfold shadowIn;dsimp only;rw[E.look (.type "dict") none k #[] none (E.miss e3)];rfl) (.here z ⟨h.1,rfl⟩)
omit h in
theorem Hp {a f:Nat}{t:TI}(h:VR c.P W (.top a) u)(e:HT c.G.tops a=some t)(e2:qW c.G.cls t.c=some cl)(e3:lk t.es m=none)(e4:lk cl.meths m=some f):c.wp A (getMethod u (st m) pl) (Post c (McR c.P) W hp s (.fnT f a) hp) s:=match u6 z e,Bw e2 with
 |.mk en k E a,C=>by
  rw[show u=.ref _ from h]
  have q:=C.meths m f e4
  exact method_fn z.In a (plainGet_of C.get).1 (plainGet_of C.get).2 q.find q.type (by unfold shadowIn;dsimp only;rw[E.look (.type "dict") none k #[] none (E.miss e3)];rfl) (.here z rfl)
theorem xZ {xs:List V}(e:hp[l]?.bind O.lsE=some xs){b:Bm}(sl:Slot "list" (st m) (Hm b))(ty:typeOf (Value.builtin (Hm b))=pure (Value.type "method_descriptor")):c.wp A (getMethod u (st m) pl) (Post c (McR c.P) W hp s (.lst l b) hp) s:=by
 have h2:u=.ref (W.ρ l):=h.2
 cases xQ z.rel h e with
 |mk a us k g d=>exact getMethod_list_of sl ty ⟨_,g,rfl,k,rfl⟩ ⟨_,g,rfl⟩ (.here z ⟨h.1,by rw[h2]⟩)
end
noncomputable def Nl (c:Cx)(n:Nat)(hp:List O):(o:V)→(m:Nm)→Option (Rs MC (GT c n hp o m))
 |.dat (.str x),m=>HH (nb m MF) (λe=>some ⟨.str x .join,hp,true,λ_ pl _ _ _ _ z (.mk t)=>by rw[b9 e,Hn];exact GM.join (.here z ⟨t,rfl⟩)⟩)
  (HH (nb m CN) (λe=>some ⟨.str x .count,hp,true,λ_ pl _ _ _ _ z (.mk t)=>by rw[b9 e,Ca];exact GM.count (.here z ⟨t,rfl⟩)⟩)
  (HH (nb m CS) (λe=>some ⟨.str x .rfind,hp,true,λ_ pl _ _ _ _ z (.mk t)=>by rw[b9 e,Cb];exact GM.rfind (.here z ⟨t,rfl⟩)⟩)
  (HH (nb m xY) (λe=>some ⟨.str x .starts,hp,true,λ_ pl _ _ _ _ z (.mk t)=>by rw[b9 e,Ad];exact GM.startswith (.here z ⟨t,rfl⟩)⟩)
  (HH (nb m CU) (λe=>some ⟨.str x .split,hp,true,λ_ pl _ _ _ _ z (.mk t)=>by rw[b9 e,CW];exact GM.split (.here z ⟨t,rfl⟩)⟩) none))))
 |.ref l,m=>AR (sM hp l) (λI e=>tk (qW c.G.cls I.c) λcl e2=>AR (lk I.es m) (λy e3=>some ⟨.val y,hp,aO m cl.fields&&y.plain,λg pl _ _ _ _ z h=>Ho z h e e2 e3 g⟩)
   λe3=>tk (lk cl.meths m) λf e4=>some ⟨.fn f l,hp,true,λ_ pl _ _ _ _ z h=>Nk z h e e2 e3 e4⟩)
  λ_=>tk (hp[l]?.bind O.lsE) λxs e=>HH (nb m xX) (λq=>some ⟨.lst l .append,hp,true,λ_ pl _ _ _ _ z h=>xZ z h e (b9 q▸vE▸F.slot_list_append) F.type_list_append⟩)
   (HH (nb m Sh) (λq=>some ⟨.lst l .pop,hp,true,λ_ pl _ _ _ _ z h=>xZ z h e (b9 q▸Nj▸F.slot_list_pop) F.type_list_pop⟩) none)
 |.top a,m=>tk (HT c.G.tops a) λt e=>tk (qW c.G.cls t.c) λcl e2=>AR (lk t.es m) (λ_ _=>none) λe3=>tk (lk cl.meths m) λf e4=>some ⟨.fnT f a,hp,true,λ_ pl _ _ _ _ z h=>Hp z h e e2 e3 e4⟩
 |_,_=>none
noncomputable def eT (c:Cx)(n:Nat)(hp:List O)(m:MC)(args:List V)(v:V)(hp':List O):Prop:=
 ∀ A W s x vals,At c n A W hp s→McR c.P W m x→VRs c.P W args vals→Keep c.M s.heap x.1∧c.wp A (call x.1 (x.2++vals)) (Post c c.VT W hp s v hp') s
theorem Si {c:Cx}{n f l:Nat}{hp hp':List O}{args:List V}{v:V}(h:CallOk c n f (.ref l::args) hp v hp'):eT c n hp (.fn f l) args v hp':=λA W s x vals z hf hv=>by
 rw[hf.2]
 exact⟨.of (keeps_K (jR h.fn) _ z.In),h8 (h.run A W s _ _ .pos z (.mk ⟨hf.1,rfl⟩ hv))⟩
theorem Nn {c:Cx}{n f a:Nat}{hp hp':List O}{args:List V}{v:V}(h:CallOk c n f (.top a::args) hp v hp'):eT c n hp (.fnT f a) args v hp':=λA W s x vals z hf hv=>by
 rw[show x=_ from hf]
 exact⟨.of (keeps_K (jR h.fn) _ z.In),h8 (h.run A W s _ _ .pos z (.mk rfl hv))⟩
theorem No {c:Cx}{n:Nat}{hp hp':List O}{args:List V}{f v:V}(h:vD c n hp f args v hp'):eT c n hp (.val f) args v hp':=λA W s x vals z hf hv=>hf.elim λu q=>by
 rw[q.1]
 exact h A W s u vals z q.2 hv
noncomputable def eE:List V→Option (List Nm)
 | []=>some []
 |v::r=>v.strE.bind λx=>(eE r).map (x::·)
theorem x6 {P:Params}{W:Wd}:∀ {xs:List V} {ss:List Nm} {us:List Value},VRs P W xs us→eE xs=some ss→∃ l:List (Str×Tok),us=strValues l∧l.map (·.1)=ss.map st
 | [],_,_,h,e=>by obtain rfl:_=[]:=h;cases e;exact⟨[],rfl,rfl⟩
 |_::_,_,_,.mk a r,e=>(aK e).elim λx y=>(bA y.2).elim λss q=>(x6 r q.1).elim λl w=>(eX y.1 a).elim λt ht=>⟨(st x,t)::l,by rw[ht,w.1];rfl,q.2▸congrArg (st x::·) w.2⟩
noncomputable def Cc (s y:Nm)(a b:Int):Int:=(occurrences (st s) (st y) (fromIndex (st s).length a) (min (fromIndex (st s).length b) (st s).length) ((st s).length+1)).length
noncomputable def pB (s y:Nm)(a b:Int):Int:=match lastOccurrence (st s) (st y) (fromIndex (st s).length a) (min (fromIndex (st s).length b) (st s).length)with
 |some k=>(k:Int)
 |none=> -1
theorem q7 (x y:Nm)(i j:Int)(t u v z:Tok):Gives (Builtin.«str.count» ⟨[.str (st x) t,.str (st y) u,.int i v,.int j z],[]⟩) (.int (Cc x y i j)):=.of_eq rfl
theorem q8 (x y:Nm)(i j:Int)(t u v z:Tok):Gives (Builtin.«str.rfind» ⟨[.str (st x) t,.str (st y) u,.int i v,.int j z],[]⟩) (.int (pB x y i j)):=by
 show Gives (match lastOccurrence (st x) (st y) (fromIndex (st x).length i) (min (fromIndex (st x).length j) (st x).length)with|some k=>retInt k|none=>(do rule "str.rfind.not-found";retInt (-1))) _
 unfold pB
 cases lastOccurrence (st x) (st y) (fromIndex (st x).length i) (min (fromIndex (st x).length j) (st x).length)with
 |none=>exact .rule (.of_eq rfl)
 |some k=>exact .of_eq rfl
noncomputable def MG:List V→Option (Int×Int)
 | [a,b]=>a.intE.bind λa=>b.intE.map λb=>(a,b)
 |_=>none
theorem Cd {P:Params}{W:Wd}{args:List V}{p:Int×Int}{us:List Value}(e:MG args=some p)(h:VRs P W args us):∃ u v,us=[.int p.1 u,.int p.2 v]:=by
 cases args with
 |nil=>cases e
 |cons a r=>cases r with
  |nil=>cases e
  |cons b r=>cases r with
   |cons=>cases e
   |nil=>exact(aK e).elim λa q=>(bA q.2).elim λb w=>(gH h).elim λu r=>r.elim λv r=>(dP q.1 r.2.1).elim λt e2=>(dP w.1 r.2.2).elim λt2 e3=>⟨t,t2,by rw[r.1,e2,e3,← w.2]⟩
noncomputable def Ce:List V→Option (Nm×Int×Int)
 | []=>none
 |x::r=>x.strE.bind λx=>(MG r).map λp=>(x,p)
theorem sV {P:Params}{W:Wd}{args:List V}{p:Nm×Int×Int}{us:List Value}(e:Ce args=some p)(h:VRs P W args us):∃ t u v,us=[.str (st p.1) t,.int p.2.1 u,.int p.2.2 v]:=by
 cases args with
 |nil=>cases e
 |cons x r=>exact(aK e).elim λx y=>(bA y.2).elim λq w=>(by rcases(h:Two (VR P W _) (R2 (VR P W) r) us)with⟨h1,r⟩;exact(eX y.1 h1).elim λt e1=>(Cd w.1 r).elim λu z=>z.elim λv z=>⟨t,u,v,by rw[e1,z,← w.2]⟩)
theorem mN {v:V}{xs:List V}{ss:List Nm}(e:items v hp=some xs)(e2:eE xs=some ss)(g:Nat.ble ss.flatten.length lim=true):eT c n hp (.str [] .join) [v] (.dat (.str ss.flatten)) hp:=λ_ _ _ _ _ z ⟨t,h⟩ hv=>(bZ hv).elim λu q=>by
 rw[h,q.1]
 exact⟨.blt _,match u,aP z.rel q.2 e with
  |_,.mk a us k I d=>by
   obtain⟨l,rfl,hl⟩:=x6 d e2
   exact SC.join ⟨_,I,rfl,k,rfl⟩ hl (Ab ss (A3 g)) λt' k=>by rw[show Txt.join (st []) (ss.map st)=st ss.flatten from congrArg Str.mk (congrArg List.toArray (CJ ss))];exact iR z⟩
noncomputable def bO (x y:Nm):List Nm:=(Txt.split (st x) (st y)).map λw=>w.cps.toList
theorem sW {P:Params}{W:Wd}:∀ (ws:List Str) (k:Nat),VRs P W (ws.map λw=>.dat (.str w.cps.toList)) (strsFrom k ws)
 | [],_=>rfl
 |w::ws,k=>.mk (aI w ▸ .mk k) (sW ws (k+1))
theorem Cf {x y:Nm}{t:Tok}{A:Around}{W:Wd}{s:Shared}{u:Value}(z:At c n A W hp s)(hy:IsS y u)(g:Nat.ble x.length lim=true)(g2:(y.length==0)=false)(g3:Nat.ble (bO x y).length lim=true):
  c.wp A (call (.builtin "str.split") [.str (st x) t,u]) (Post c c.VT W hp s (.ref hp.length) (hp++[.lst ((bO x y).map λw=>.dat (.str w))])) s:=by
 rcases hy with⟨t'⟩
 have ln:(st x).length=x.length:=rfl
 unfold bO at g3 ⊢
 rw[List.length_map]at g3
 rw[List.map_map]
 unfold Txt.split at g3 ⊢
 cases h1:(decide ((st x).length < (st y).length)||decide (Builtin.Str.strKind (st x)<Builtin.Str.strKind (st y)))
 ·rw[h1,if_neg A8]at g3
  rw[if_neg A8]
  cases hf:(Builtin.Str.occurrences (st x) (st y) 0 (st x).length ((st x).length+1)).isEmpty
  ·rw[hf,if_neg A8]at g3
   rw[if_neg A8]
   exact call_meets F.slot_str_split (typeIs_str _ _ _) F.entry_str_split (F.args_str_split_2 _ _) (meets_str_split_sep _ _ _ _ h1 g2 hf (bC g) (bC g3)) (e8 z (sW _ _))
  ·rw[if_pos rfl]
   exact call_meets F.slot_str_split (typeIs_str _ _ _) F.entry_str_split (F.args_str_split_2 _ _) (meets_str_split_not_found _ _ _ _ h1 g2 hf) (e8 (t:=s.toks) z (.mk (.mk t) rfl))
 ·rw[if_pos rfl]
  exact call_meets F.slot_str_split (typeIs_str _ _ _) F.entry_str_split (F.args_str_split_2 _ _) (meets_str_split_cannot_occur _ _ _ _ h1) (e8 (t:=s.toks) z (.mk (.mk t) rfl))
noncomputable def Sj (c:Cx)(n:Nat)(hp:List O)(x:Nm)(args:List V):(b:Bm)→Option (Rs V (eT c n hp (.str x b) args))
 |.join=>match x,args with
  | [],[v]=>tk (items v hp) λxs e=>tk (eE xs) λss e2=>some ⟨.dat (.str ss.flatten),hp,Nat.ble ss.flatten.length lim,λg=>mN e e2 g⟩
  |_,_=>none
 |.count=>tk (Ce args) λp e=>some ⟨.dat (.int (Cc x p.1 p.2.1 p.2.2)),hp,true,λ_ _ _ _ _ _ z ⟨t,h⟩ hv=>(sV e hv).elim λ_ q=>q.elim λ_ q=>q.elim λ_ q=>by
   rw[h,q]
   exact⟨.blt _,call_gives F.slot_str_count (typeIs_str _ _ _) F.entry_str_count (F.args_str_count_4 _ _ _ _) (q7 x p.1 p.2.1 p.2.2 _ _ _ _) (eS z)⟩⟩
 |.rfind=>tk (Ce args) λp e=>some ⟨.dat (.int (pB x p.1 p.2.1 p.2.2)),hp,true,λ_ _ _ _ _ _ z ⟨t,h⟩ hv=>(sV e hv).elim λ_ q=>q.elim λ_ q=>q.elim λ_ q=>by
   rw[h,q]
   exact⟨.blt _,call_gives F.slot_str_rfind (typeIs_str _ _ _) F.entry_str_rfind (F.args_str_rfind_4 _ _ _ _) (q8 x p.1 p.2.1 p.2.2 _ _ _ _) (eS z)⟩⟩
 |.starts=>match args with
  | [v]=>tk v.strE λy e=>some ⟨.dat (.boo (pA y x)),hp,true,λ_ _ _ _ _ _ z ⟨t,h⟩ hv=>(bZ hv).elim λu q=>(eX e q.2).elim λt' w=>by
   rw[h,q.1,w]
   exact⟨.blt _,SC.startswith (by rw[Ni];exact .here z rfl)⟩⟩
  |_=>none
 |.split=>match args with
  | [v]=>tk v.strE λy e=>some ⟨.ref hp.length,hp++[.lst ((bO x y).map λw=>.dat (.str w))],Nat.ble x.length lim&&(!(y.length==0)&&Nat.ble (bO x y).length lim),λg _ _ _ _ _ z ⟨t,h⟩ hv=>(bZ hv).elim λu q=>by
   have g:=A0 g
   have g':=A0 g.2
   rw[h,q.1]
   exact⟨.blt _,Cf z ((eX e q.2).elim λt w=>w ▸ .mk t) g.1 ((Bool.not_eq_true' _).mp g'.1) g'.2⟩⟩
  |_=>none
 |_=>none
theorem i8 {α:Type}:∀ (xs:List α),xs.eraseIdx (xs.length-1)=xs.take (xs.length-1)
 | []=>rfl
 | [_]=>rfl
 |x::y::r=>congrArg (x::·) (i8 (y::r))
set_option tactic.hygienic true in
theorem x8 {l:Nat}{xs:List V}{x:V}(e:hp[l]?.bind O.lstE=some xs)(ex:xs[xs.length-1]? =some x)(g:Nat.ble xs.length lim=true):eT c n hp (.lst l .pop) [] x (hp.set l (.lst (xs.take (xs.length-1)))):=λ_ _ _ _ vals z ⟨_,h⟩ hv=>by
 rw[h,show vals=[]from hv]
 exact⟨.blt _,match z.rel.lst (dY e)with
  |.mk us k I d=>(R2.at d ex).elim λy q=>by
   have sz:us.toArray.size=xs.length:=List.size_toArray.trans (R2.len d)
   refine call_meets F.slot_list_pop ⟨_,I,rfl⟩ F.entry_list_pop (F.args_list_pop_1 _) (MeetsSeq.list_pop_last _ us.toArray k y (by rw[sz,List.getElem?_toArray];exact q.1) (by rw[sz];exact bC g)) ⟨I,f7 z (dY e) I (R2.take (xs.length-1) d) ?_ q.2⟩
   rw[sz,← R2.len d,← i8,Array.eraseIdxIfInBounds]
   split
   ·simp
   ·rename_i q
    rw[List.size_toArray]at q
    cases us with
    |nil=>rfl
    |cons=>exact absurd (A6 (Nat.sub_lt (Nat.succ_pos _) Nat.one_pos) (A7 _)) q⟩
noncomputable def Sk (c:Cx)(n:Nat)(hp:List O)(l:Nat)(args:List V)(xs:List V)(e:hp[l]?.bind O.lstE=some xs):(b:Bm)→Option (Rs V (eT c n hp (.lst l b) args))
 |.append=>match args with
  | [x]=>some ⟨.dat .non,hp.set l (.lst (xs++[x])),Nat.ble xs.length lim,λg _ _ _ _ _ z ⟨_,h⟩ hv=>(bZ hv).elim λu q=>by
   rw[h,q.1]
   exact⟨.blt _,match z.rel.lst (dY e)with
    |.mk us k I d=>call_meets F.slot_list_append ⟨_,I,rfl⟩ F.entry_list_append (F.args_list_append_2 _ _) (list_append _ us.toArray k u (by rw[List.size_toArray,R2.len d];exact bC g)) ⟨I,f7 z (dY e) I (R2.app d (R2.one q.2)) (List.push_toArray ..) rfl⟩⟩⟩
  |_=>none
 |.pop=>match args,xs,e with
  | [],xs,e=>tk (xs[xs.length-1]?) λx ex=>some ⟨x,hp.set l (.lst (xs.take (xs.length-1))),Nat.ble xs.length lim,λg=>x8 e ex g⟩
  | [i],x::r,e=>tk i.intE λk e2=>HH (gU k 0) (λe3=>some ⟨x,hp.set l (.lst r),Nat.ble (r.length+1) lim,λg _ _ _ _ _ z ⟨_,h⟩ hv=>(bZ hv).elim λu q=>(dP e2 q.2).elim λt w=>by
   obtain rfl:k=0:=eq_of_beq ((bL k 0).trans e3)
   rw[h,q.1,w]
   exact⟨.blt _,match z.rel.lst (dY e)with
    |.mk us k I d=>match us,(d:Two (VR c.P _ x) (R2 (VR c.P _) r) us),I with
     |_,.mk (a:=y) (l:=us) hy d,I=>call_meets F.slot_list_pop ⟨_,I,rfl⟩ F.entry_list_pop (F.args_list_pop_2 _ _) (MeetsSeq.list_pop_at _ (y::us).toArray k 0 t 0 y (by decide) (kU (k:=0) (n:=us.length+1) rfl).1 rfl (by rw[List.size_toArray,B3,R2.len d];exact bC g)) ⟨I,f7 z (dY e) I d (by simp) hy⟩⟩⟩) none
  |_,_,_=>none
 |_=>none
theorem q9 {A:Around}{W:Wd}{s:Shared}{α β:Type}{l:Nat}{xs ys:List D}{us vs:List Value}{k t:Nat}{f:Array Value→Array Value}{RR:RT β α}{b:β}{r:α}(z:At c n A W hp s)(lv:Lv hp l (.dls xs))(g:s.heap.get? (W.ρ l)=some ⟨.type "list",none,.seq us.toArray k,#[]⟩)
  (d:DRs c.P W.fz ys vs)(hf:f us.toArray=vs.toArray)(x:RR W b r):Post c RR W hp s b (hp.set l (.dls ys)) r {s with heap:=s.heap.update (W.ρ l) (Obj.mapSeq f),toks:=t}:=
 have y:=z.rel.update (l:=l) (o':=.dls ys) (f:=Obj.mapSeq f) lv g (by simp only[Obj.mapSeq,hf];exact .mk vs _ d)
 .mk W y.1 (.of y.2) x
noncomputable def Xk:(v:V)→Option ((d:D)×PLift (v=.dat d))
 |.dat d=>some ⟨d,⟨rfl⟩⟩
 |_=>none
noncomputable def Sl (c:Cx)(n:Nat)(hp:List O)(l:Nat)(args:List V)(xs:List D)(e:hp[l]?.bind O.dlE=some xs):(b:Bm)→Option (Rs V (eT c n hp (.lst l b) args))
 |.append=>match args with
  | [x]=>tk (Xk x) λy _=>some ⟨.dat .non,hp.set l (.dls (xs++[y.1])),Nat.ble xs.length lim,λg _ _ _ _ _ z ⟨_,h⟩ hv=>(bZ hv).elim λu q=>by
   rw[h,q.1]
   exact⟨.blt _,match z.rel.dls (lV e)with
    |.mk us k I d=>have d2:=DRs.r2.mp d;call_meets F.slot_list_append ⟨_,I,rfl⟩ F.entry_list_append (F.args_list_append_2 _ _) (list_append _ us.toArray k u (by rw[List.size_toArray,R2.len d2];exact bC g)) ⟨I,q9 z (lV e) I (DRs.r2.mpr (R2.app d2 (R2.one (y.2.down▸q.2:VR c.P _ (.dat y.1) u)))) (List.push_toArray ..) rfl⟩⟩⟩
  |_=>none
 |.pop=>match args,xs,e with
  | [i],x::r,e=>tk i.intE λk e2=>HH (gU k 0) (λe3=>some ⟨.dat x,hp.set l (.dls r),Nat.ble (r.length+1) lim,λg _ _ _ _ _ z ⟨_,h⟩ hv=>(bZ hv).elim λu q=>(dP e2 q.2).elim λt w=>by
   obtain rfl:k=0:=eq_of_beq ((bL k 0).trans e3)
   rw[h,q.1,w]
   exact⟨.blt _,match z.rel.dls (lV e)with
    |.mk us k I d=>match us,(d:Two (DR c.P _ x) (DRs c.P _ r) us),I with
     |_,.mk (a:=y) (l:=us) hy d,I=>call_meets F.slot_list_pop ⟨_,I,rfl⟩ F.entry_list_pop (F.args_list_pop_2 _ _) (MeetsSeq.list_pop_at _ (y::us).toArray k 0 t 0 y (by decide) (kU (k:=0) (n:=us.length+1) rfl).1 rfl (by rw[List.size_toArray,B3,R2.len (DRs.r2.mp d)];exact bC g)) ⟨I,q9 z (lV e) I d (by simp) hy⟩⟩⟩) none
  |_,_,_=>none
 |_=>none
noncomputable def pBm (c:Cx)(n:Nat)(hp:List O)(args:List V):(m:MC)→Option (Rs V (eT c n hp m args))
 |.str x b=>Sj c n hp x args b
 |.lst l b=>AR (hp[l]?.bind O.lstE) (λxs e=>Sk c n hp l args xs e b) λ_=>tk (hp[l]?.bind O.dlE) λxs e=>Sl c n hp l args xs e b
 |_=>none
end
end
section
noncomputable abbrev Cx.VTs (c:Cx):RT (List V) (List Value):=VRs c.P
noncomputable abbrev RE (c:Cx)(sc:aH)(n:Nat)(F:Fx)(hp:List O)(r:Expr):V→List O→Prop:=Run c sc n F hp (λenv=>eval r env) c.VT
noncomputable abbrev RB (c:Cx)(sc:aH)(n:Nat)(F:Fx)(hp:List O)(r:Expr):Bool→List O→Prop:=Run c sc n F hp (λenv=>isTrue r env (eval r env)) Br
noncomputable abbrev Ae (c:Cx)(sc:aH)(n:Nat)(F:Fx)(hp:List O)(rs:List Expr):List V→List O→Prop:=Run c sc n F hp (λenv=>spliced (rs.map λr=>(false,eval r env))) c.VTs
section
variable {c:Cx}{n:Nat}{A:Around}{W W1:Wd}{hp hp1 hp2:List O}{s s1:Shared}{α β:Type}{RR:RT β α}{b:β}
theorem h9 {m:Sem α}(L:Lat W hp s W1 hp1 s1)(h:c.wp A m (Post c RR W1 hp1 s1 b hp2) s1):c.wp A m (Post c RR W hp s b hp2) s1:=wpAny_mono h (λ_ _ p=>p.later L) λ_ _ f=>f
theorem Post.last {a:α}{t:Nat}(z:At c n A W1 hp1 s1)(L:Lat W hp s W1 hp1 s1)(x:RR W1 b a):Post c RR W hp s b hp1 a {s1 with toks:=t}:=.mk W1 z.rel ⟨L.e,L.g,L.o⟩ x
end
noncomputable def cB (r:Expr):Bool:= !Nat.beq r.ctorIdx 22
theorem Sm {r:Expr}(rs:List Expr)(env:Env)(h:cB r=true):starEach (r::rs) env=(false,eval r env)::starEach rs env:=by
 cases r with
 |Starred=>cases h
 |_=>rfl
theorem cV (pos:Pos)(env:Env):∀ {rs:List Expr},rs.all cB=true→backTo pos (starEach rs env)=rs.map λr=>(false,eval r env)
 | [],_=>rfl
 |r::rs,h=>by
  have h:=A0 h
  rw[Sm rs env h.1]
  exact congrArg (List.cons (false,_)) (cV pos env h.2)
section
variable {M:Model}{A:Around}{s:Shared}{E:Value→Shared→Prop}{env:Env}
theorem Hq {f:Value}{rs:List Expr}{Q:Args→Shared→Prop}(h:wpAny M A (spliced (rs.map λr=>(false,eval r env))) (λvs=>Q ⟨vs,[]⟩) E s):wpAny M A (evalArgs f true (rs.map λr=>(false,eval r env)) []) Q E s:=by
 cases rs with
 |nil=>exact bK (wpAny_mono h (λvs s' h'=>wpAny_holding (bK (wpAny_pure (bK (wpAny_pure (wpAny_pure h')))))) λ_ _ x=>x)
 |cons r rs=>exact evalArgs_plain h
theorem x9 {pos:Pos}{f:Value}{first:List Value}{rs:List Expr}{Q:Value→Shared→Prop}
  (h:wpAny M A (spliced (rs.map λr=>(false,eval r env))) (λvs s₁=>Keep M s₁.heap f∧wpAny M A (call f (first++vs)) Q E s₁) E s):wpAny M A (callWith pos f first (rs.map λr=>(false,eval r env)) []) Q E s:=
 callWith_of (P:=λh=>Keep M h f) (by simp) (λ_ k=>(by rcases k with⟨k,o,l⟩;exact⟨k,o,l⟩)) (Hq h)
end
section
variable {c:Cx}{sc:aH}{n:Nat}{F:Fx}{hp hp1 hp2 hp3 hp4:List O}{p ap:Pos}{r g l x:Expr}{rs:List Expr}{u v w y:V}{us:List V}{k:Nat}
theorem Hr:RE c sc n F hp (.Constant .none k p) (.dat .non) hp:=λ_ _ _ _ z=>wpAny_Constant_none (.here z.a rfl)
theorem Hs {b:Bool}:RE c sc n F hp (.Constant (.bool b) k p) (.dat (.boo b)) hp:=λ_ _ _ _ z=>wpAny_Constant_bool (.here z.a rfl)
theorem Ht {i:Int}:RE c sc n F hp (.Constant (.int i) k p) (.dat (.int i)) hp:=λ_ _ _ _ z=>wpAny_Constant_int (eS z.a)
theorem Hu {t:Str}:RE c sc n F hp (.Constant (.str t) k p) (.dat (.str t.cps.toList)) hp:=λ_ _ _ _ z=>wpAny_Constant_str (NU z.a)
theorem Hv {q:Str}(hk:sc.lookup q=some .local)(hd:(q==("__debug__" :Str))=false)(e:AS F q.cps.toList hp=some v):RE c sc n F hp (.Name q p) v hp:=λ_ _ _ _ z=>
 wpAny_Name (by have:=Lz (x:=q.cps.toList) z (by rw[aI];unfold Env.kindOf;rw[z.sc];exact hk) e;rwa [aI]at this) hd
theorem yA {q:Str}(hk:sc.lookup q=some .cell∨(sc.lookup q=some .free∧(q==("__classdict__" :Str))=false))(hd:(q==("__debug__" :Str))=false)(e:HQ F q.cps.toList hp=some v):RE c sc n F hp (.Name q p) v hp:=λ_ _ _ _ z=>
 wpAny_Name (by have:=SM (x:=q.cps.toList) z (by rw[aI];unfold Env.kindOf;rw[z.sc];exact hk) e;rwa [aI]at this) hd
theorem Hw {q:Str}(hk:sc.lookup q=some .globalImplicit)(hd:(q==("__debug__" :Str))=false)(e:HS c.G q.cps.toList=some v):RE c sc n F hp (.Name q p) v hp:=λ_ _ _ _ z=>
 wpAny_Name (by have:=SN (x:=q.cps.toList) z (by rw[aI];unfold Env.kindOf;rw[z.sc];exact hk) e;rwa [aI]at this) hd
theorem Hx {a:Str}(hb:∀ env wh,attributeBase r a env wh=wh)(h1:RE c sc n F hp r u hp1)(h2:∀ e,Bs c n hp1 (λu=>getAttr u (st a.cps.toList) e) c.VT u v hp2):RE c sc n F hp (.Attribute r a p) v hp2:=λA W s env z=>by
 rw[aI]at h2
 show wpAny _ _ (eval _ env) _ _ _
 rw[arm_eval_Attribute,hb]
 exact bK (h1.go z λW1 u1 s1 z1 L1 x1=>bK (wpAny_standAt (bK (wpAny_holding (wpAny_mono (h2 _ A W1 s1 u1 z1.a x1) (λ_ _ q=>bK (wpAny_letTemporaryGo (wpAny_pure (q.later L1)))) λ_ _ f=>f)))))
theorem mO:Ae c sc n F hp [] [] hp:=λ_ _ _ _ z=>spliced_nil (.here (b:=[]) z.a rfl)
theorem jS (h1:RE c sc n F hp r u hp1)(h2:Ae c sc n F hp1 rs us hp2):Ae c sc n F hp (r::rs) (u::us) hp2:=λA W s env z=>
 spliced_cons (h1.go z λW1 u1 s1 z1 L1 x1=>h2.go z1 λW2 us2 s2 z2 L2 x2=>.mk W2 z2.a.rel (L1.trans L2) (.mk (x1.mono L2.le) x2))
theorem yB (hn:rs.all cB=true)(ha:eval (.Call g rs [] p)=λenv=>(do callWith p (← eval g env) [] (backTo p (starEach rs env)) (backToKw p (keywordEach [] env))))(h1:RE c sc n F hp g u hp1)(h2:Ae c sc n F hp1 rs us hp2)(h3:vD c n hp2 u us v hp3):
  RE c sc n F hp (.Call g rs [] p) v hp3:=λA W s env z=>by
 show wpAny _ _ (eval (.Call g rs [] p) env) _ _ _
 rw[ha]
 refine wpAny_bind (h1.go z λW1 u1 s1 z1 L1 x1=>?_)
 rw[cV p env hn]
 exact x9 (h2.go z1 λW2 us2 s2 z2 L2 x2=>have q:=h3 A W2 s2 u1 us2 z2.a (x1.mono L2.le) x2;⟨q.1,h9 (L1.trans L2) q.2⟩)
theorem Hy {a:Str}{m:MC}(hn:rs.all cB=true)(hl:rs.length<30)(hp':(ap.endLine==p.line)=true)(hb:∀ env wh,attributeBase r a env wh=wh)(h1:RE c sc n F hp r u hp1)(h2:GT c n hp1 u a.cps.toList m hp2)(h3:Ae c sc n F hp2 rs us hp3)(h4:eT c n hp3 m us v hp4):
  RE c sc n F hp (.Call (.Attribute r a ap) rs [] p) v hp4:=λA W s env z=>by
 show wpAny _ _ (eval _ env) _ _ _
 rw[arm_eval_Call,hb]
 refine wpAny_bind (h1.go z λW1 u1 s1 z1 L1 x1=>wpAny_bind (wpAny_standAt ?_))
 rw[cV p env hn]
 have few:methodCallForm (rs.length+([]:List Keyword).length) (rs.map λr=>(false,eval r env)) (backToKw p (keywordEach [] env))=true:=by
  unfold methodCallForm
  exact Bool.and_eq_true_iff.mpr ⟨Bool.and_eq_true_iff.mpr ⟨by simp,rfl⟩,decide_eq_true hl⟩
 unfold methodCall
 rw[few]
 unfold calleeOf
 rw[if_pos rfl,← aI a]
 refine wpAny_bind (wpAny_holding (go z1.a (h2 _ A W1 s1 u1 z1.a x1) λW2 fx s2 a2 L2 x2=>?_))
 have hpos:methodCallPos true r env ap p=pure p:=by
  unfold methodCallPos
  simp[hp']
 obtain⟨f,first⟩:=fx
 dsimp only
 rw[hpos]
 exact wpAny_bind (wpAny_pure (x9 (h3.go (z1.next L2 a2) λW3 us3 s3 z3 L3 x3=>have q:=h4 A W3 s3 (f,first) us3 z3.a (McR.mono L3.le x2) x3;⟨q.1,h9 ((L1.trans L2).trans L3) q.2⟩)))
noncomputable def hG (r:Expr):Bool:= !Nat.beq r.ctorIdx 26
noncomputable def iA (v:V)(hp:List O):Bool:=match v with
 |.dat (.str _)=>true
 |.dat (.dct _)=>true
 |v=>(items v hp).isSome||(dK v hp).isSome||(match v with|.ref l=>(hp[l]?.bind O.nsE).isSome|_=>false)
noncomputable abbrev Cg (s:Shared)(u:Value):Prop:=∃ T id,s.TypeIs u T∧typeLookup (.type T) "__getitem__" =pure (some (.builtin id))
section
variable {A:Around}{W:Wd}{s:Shared}{v:V}{u:Value}
theorem Sn {xs:List V}(z:At c n A W hp s)(h:VR c.P W v u)(q:items v hp=some xs):Cg s u:=by
 rcases aP z.rel h q with⟨a,us,k,I,d⟩
 exact⟨"list",_,⟨_,I,rfl⟩,slot_list_getitem.lookup⟩
theorem So {xs:List V}(z:At c n A W hp s)(h:VR c.P W v u)(q:dK v hp=some xs):Cg s u:=by
 rcases cM z.rel h q with⟨a,us,k,I,d⟩
 exact⟨"tuple",_,⟨_,I,rfl⟩,F.slot_tuple_getitem.lookup⟩
noncomputable def ZX (v:V)(hp:List O):Bool:=match v with
 |.ref l=>(hp[l]?.bind O.nsE).isSome
 |_=>false
theorem Sp (z:At c n A W hp s)(h:VR c.P W v u)(e:ZX v hp=true):Cg s u:=by
 cases v with
 |ref l=>
  obtain⟨es,q⟩:=Option.isSome_iff_exists.mp e
  rcases z.rel.ns (fZ q)with⟨en,k,g,E,_⟩
  exact⟨"dict",_,(show u=.ref (W.ρ l)from h.2) ▸ ⟨_,g,rfl⟩,slot_dict_getitem.lookup⟩
 |_=>cases e
theorem MH (z:At c n A W hp s)(h:VR c.P W v u)(e:((items v hp).isSome||(dK v hp).isSome||ZX v hp)=true):Cg s u:=
 (A1 e).elim (λe=>(A1 e).elim (λe=>(Option.isSome_iff_exists.mp e).elim λ_=>Sn z h) λe=>(Option.isSome_iff_exists.mp e).elim λ_=>So z h) (Sp z h)
theorem vF (z:At c n A W hp s)(h:VR c.P W v u)(e:iA v hp=true):Cg s u:=by
 cases v with
 |dat d=>cases d with
  |str x=>cases(h:IsS x u);exact⟨"str",_,typeIs_str s _ _,F.slot_str_getitem.lookup⟩
  |dct es=>rcases(h:IsDct W.fz (DRe c.P W.fz es) u)with⟨a,en,k,f,_⟩;exact⟨"dict",_,⟨_,z.rel.fz _ _ f,rfl⟩,slot_dict_getitem.lookup⟩
  |_=>exact MH z h e
 |_=>exact MH z h e
end
theorem Hz (hn:hG x=true)(h1:RE c sc n F hp r u hp1)(h2:RE c sc n F hp1 x w hp2)(h:iA u hp2=true)(h3:a9 c n hp2 getItem c.VT u w v hp3):RE c sc n F hp (.Subscript r x p) v hp3:=λA W s env z=>
 Subscript_ (h1.go z λW1 u1 s1 z1 L1 x1=>h2.go z1 λW2 u2 s2 z2 L2 x2=>(vF z2.a (x1.mono L2.le) h).elim λT q=>q.elim λid q=>h9 (L1.trans L2) (tail_any (ops:=[u1,u2]) q.1 q.2 (h3 A W2 s2 u1 u2 z2.a (x1.mono L2.le) x2) (by cases x with
  |Slice=>exact nomatch hn
  |_=>rfl)))
end
end
section
open PySem.Builtin.Str (strSliceIndices)
noncomputable def mn (k n:Nat):Nat:=match Nat.ble k n with
 |true=>k
 |false=>n
noncomputable def yC (n d:Nat):Option Int→Nat
 |none=>d
 |some (.ofNat k)=>mn k n
 |some (.negSucc k)=>n - (k+1)
noncomputable def dX {α:Type}(xs:List α)(lo hi:Option Int):List α:=(xs.drop (yC xs.length 0 lo)).take (yC xs.length xs.length hi-yC xs.length 0 lo)
theorem iU (k n:Nat):mn k n=min k n:=by
 unfold mn
 cases h:Nat.ble k n with
 |true=>exact(Nat.min_eq_left (A3 h)).symm
 |false=>exact(Nat.min_eq_right (Nat.le_of_not_le λq=>A8 (h.symm.trans (A4 q)))).symm
theorem Np (n k:Nat):max 0 ((n:Int) - (k:Nat))=((n-k:Nat):Int):=by
 rcases Nat.le_total k n with h|h
 ·rw[Int.ofNat_sub h]
  exact Int.max_eq_right (Int.sub_nonneg_of_le (Int.ofNat_le.mpr h))
 ·rw[Nat.sub_eq_zero_of_le h]
  exact Int.max_eq_left (Int.sub_nonpos_of_le (Int.ofNat_le.mpr h))
theorem yD (n:Nat)(i:Int):max 0 (min (if i<0 then i+n else i) (n:Int))=(yC n 0 (some i):Int):=by
 cases i with
 |ofNat k=>
  rw[if_neg (Int.not_lt.mpr (Int.natCast_nonneg k):¬ Int.ofNat k<0),show yC n 0 (some (.ofNat k))=min k n from iU k n]
  show max 0 (min (k:Int) n)=_
  rcases Nat.le_total k n with h|h
  ·rw[Nat.min_eq_left h,Int.min_eq_left (Int.ofNat_le.mpr h)];exact Int.max_eq_right (Int.natCast_nonneg k)
  ·rw[Nat.min_eq_right h,Int.min_eq_right (Int.ofNat_le.mpr h)];exact Int.max_eq_right (Int.natCast_nonneg n)
 |negSucc k=>
  rw[if_pos (Int.negSucc_lt_zero k),show yC n 0 (some (.negSucc k))=n - (k+1)from rfl,← Np,Int.min_eq_left (Int.add_le_of_le_sub_right (by rw[Int.sub_self];exact Int.le_of_lt (Int.negSucc_lt_zero k))),Int.add_comm];rfl
theorem Sq (n d:Nat)(h:d≤n)(k:Option Int):yC n d k≤n:=by
 cases k with
 |none=>exact h
 |some i=>cases i with
  |ofNat k=>exact A5 (Nat.le_of_eq (iU k n)) (Nat.min_le_right k n)
  |negSucc k=>exact Nat.sub_le _ _
theorem Ch (lo hi:Option Int)(n:Nat):strSliceIndices lo hi 1 n=(List.range (yC n n hi-yC n 0 lo)).map (yC n 0 lo+·):=by
 rw[← sliceRange_one]
 unfold strSliceIndices
 simp only[show(1:Int)>0 by decide,if_true]
 congr 1
 ·cases lo with
  |none=>rfl
  |some i=>exact yD n i
 ·cases hi with
  |none=>rfl
  |some i=>exact(yD n i).trans (by cases i <;>rfl)
theorem sX {α:Type}(xs:List α)(lo hi:Option Int):(strSliceIndices lo hi 1 xs.length).filterMap (xs[·]?)=dX xs lo hi:=by
 rw[Ch]
 have:=pick_run xs.toArray (yC xs.length 0 lo) (yC xs.length xs.length hi-yC xs.length 0 lo)
 unfold dX
 simpa using this
theorem IB {α:Type}(xs:List α)(lo hi:Option Int):(dX xs lo hi).length≤xs.length:=A5 (List.length_take_le' ..) (List.length_drop▸Nat.sub_le _ _)
theorem Ci {α:Type}(xs:List α)(lo hi:Option Int)(h:(strSliceIndices lo hi 1 xs.length).length=xs.length):dX xs lo hi=xs:=by
 unfold dX
 rw[Ch,List.length_map,List.length_range]at h
 have h1:=Sq xs.length xs.length (A7 _) hi
 cases xs with
 |nil=>rw[List.drop_nil,List.take_nil]
 |cons x r=>
  have a0:yC (x::r).length 0 lo=0:=by rw[B3]at *;omega
  rw[h,a0];exact List.take_length
noncomputable def Xl:V→Option (Option Int)
 |.dat .non=>some none
 |.dat (.int k)=>some (some k)
 |_=>none
theorem jT {P:Params}{W:Wd}{v:V}{u:Value}{k:Option Int}(hv:VR P W v u)(e:Xl v=some k):IsPart u k∧∃ p:Option (Int×Tok),u=partValue p∧p.map (·.1)=k:=by
 cases v with
 |dat d=>cases d with
  |non=>rw[show u=.none from hv,← A9 e];exact⟨.none,none,rfl,rfl⟩
  |int i=>exact match u,(hv:IsI i u)with|_,.mk t=>A9 e ▸ ⟨.int _ _,some (i,t),rfl,rfl⟩
  |_=>cases e
 |_=>cases e
noncomputable def ZY (c:Cx)(n:Nat)(hp:List O)(o lo hi v:V)(hp':List O):Prop:=
 ∀ A W s u vl vh sl,At c n A W hp s→VR c.P W o u→VR c.P W lo vl→VR c.P W hi vh→s.heap.IsSliceOf sl vl vh .none→c.wp A (getItem u (.ref sl)) (Post c c.VT W hp s v hp') s
set_option tactic.hygienic true in
noncomputable def Xm (c:Cx)(n:Nat)(hp:List O)(o lo hi:V):Option (Rs V (ZY c n hp o lo hi)):=tk (Xl lo) λa ea=>tk (Xl hi) λb eb=>AR o.strE
 (λx e=>some ⟨.dat (.str (dX x a b)),hp,Nat.ble x.length lim,λg A W s u vl vh sl z ho h1 h2 hs=>by
  obtain⟨_,qa,rfl,ra⟩:=jT h1 ea
  obtain⟨_,qb,rfl,rb⟩:=jT h2 eb
  obtain⟨t,rfl⟩:=eX e ho
  refine wpAny_getItem_str_slice (l:=qa) (u:=qb) (st:=none) hs rfl ?_
  have e1:slicePicked (st x) qa qb none=strSliceIndices a b 1 x.length:=by unfold slicePicked;rw[ra,rb,kT];rfl
  have e2:(⟨((slicePicked (st x) qa qb none).filterMap ((st x).cps[·]?)).toArray⟩:Str)=st (dX x a b):=by
   rw[e1,← sX]
   exact congrArg (λf:Nat→Option Nat=>(⟨((strSliceIndices a b 1 x.length).filterMap f).toArray⟩:Str)) (funext λi=>List.getElem?_toArray ..)
  unfold sliceMade
  split
  ·rename_i q
   have q:=eq_of_beq (A0 q).2
   rw[e1,kT]at q
   rw[Ci x a b q]
   exact iR (k:=s.toks) z
  ·rw[e2]
   exact⟨A5 (IB _ _ _) (bC g),iR z⟩⟩)
 λ_=>tk (items o hp) λxs e=>some ⟨.ref hp.length,hp++[.lst (dX xs a b)],Nat.ble xs.length lim,λg A W s u vl vh sl z ho h1 h2 hs=>match u,aP z.rel ho e with
  |_,.mk l us k I d=>by
   refine wpAny_getItem_list_slice ⟨_,I,rfl,k,rfl⟩ hs (jT h1 ea).1 (jT h2 eb).1 .none nofun ?_ (by rw[List.size_toArray,R2.len d];exact bC g)
   have e1:slicePick us.toArray a b none=(dX us a b).toArray:=by
    rw[← sX]
    unfold slicePick
    simp
    rfl
   rw[e1]
   have d2:VRs c.P W (dX xs a b) (dX us a b):=by
    unfold dX
    rw[R2.len d]
    exact R2.take _ (R2.drop _ d)
   exact e8 z d2⟩
end
section
noncomputable abbrev RP (c:Cx)(sc:aH)(n:Nat)(F:Fx)(hp:List O)(r:Option Expr):V→List O→Prop:=Run c sc n F hp (λenv=>evalPart r env) c.VT
noncomputable abbrev RA (c:Cx)(sc:aH)(n:Nat)(F:Fx)(hp:List O)(op:BoolOp)(p:Pos)(rs:List Expr):V→List O→Prop:=Run c sc n F hp (λenv=>boolOp p op (evalEach rs env)) c.VT
noncomputable abbrev RL (c:Cx)(sc:aH)(n:Nat)(F:Fx)(hp:List O)(op:BoolOp)(rs:List Expr):Bool→List O→Prop:=Run c sc n F hp (λenv=>allTrue op rs env) Br
section
variable {c:Cx}{W:Wd}{hp hp1:List O}{s s1:Shared}{b a:Bool}{u:Value}
theorem ZZ:Post c eP W hp s b hp1 u s1→Post c c.VT W hp s (.dat (.boo b)) hp1 u s1
 |.mk W' r l x=>.mk W' r l x
theorem noV:Post c Br W hp s b hp1 a s1→Post c c.VT W hp s (.dat (.boo !b)) hp1 (.bool !a) s1
 |.mk W' r l x=>.mk W' r l (congrArg (λb=>Value.bool !b) (x:a=b))
theorem noB:Post c Br W hp s b hp1 a s1→Post c Br W hp s (!b) hp1 (!a) s1
 |.mk W' r l x=>.mk W' r l (congrArg (!·) (x:a=b))
end
noncomputable def fJ:BoolOp→Bool
 |.And=>false
 |.Or=>true
section
variable {c:Cx}{sc:aH}{n:Nat}{F:Fx}{hp hp1 hp2 hp3 hp4 hp5:List O}{p ap pos:Pos}{r g l x m:Expr}{rs:List Expr}{u v w y:V}{us:List V}{k:Nat}{b b':Bool}
theorem Nq:RP c sc n F hp none (.dat .non) hp:=λ_ _ _ _ z=>wpAny_pure (.here z.a rfl)
theorem Nr (h:RE c sc n F hp r v hp1):RP c sc n F hp (some r) v hp1:=h
theorem IC {ol oh:Option Expr}(h1:RE c sc n F hp r u hp1)(h2:RP c sc n F hp1 ol v hp2)(h3:RP c sc n F hp2 oh w hp3)(h:iA u hp3=true)(h4:ZY c n hp3 u v w y hp4):RE c sc n F hp (.Subscript r (.Slice ol oh none ap) p) y hp4:=λA W s env z=>
 Subscript_ (h1.go z λW1 u1 s1 z1 L1 x1=>wpAny_Slice (h2.go z1 λW2 u2 s2 z2 L2 x2=>h3.go z2 λW3 u3 s3 z3 L3 x3=>wpAny_pure (by
  have q:=z3.a.rel.allocZ (ob:={cls:=.type "slice",data:=.fields #[u2,u3,.none]}) rfl
  have L:Lat W3 hp3 s3 _ hp3 {s3 with heap:=_}:=.of (t:=s3.toks) q.2
  have z4:At c n A _ hp3 {s3 with heap:=_}:=z3.a.next L q.1 (A7 _)
  have x1':=((x1.mono L2.le).mono L3.le).mono L.le
  exact(vF z4 x1' h).elim λT t=>t.elim λid t=>h9 (((L1.trans L2).trans L3).trans L) (tail_any (ops:=[.ref s3.heap.objs.size,u1]) t.1 t.2 (h4 A _ _ u1 u2 u3 _ z4 x1' ((x2.mono L3.le).mono L.le) (x3.mono L.le) ⟨_,Heap.get?_push_size _ rfl,rfl,rfl⟩) rfl))))
theorem ID (h1:RE c sc n F hp r (.dat (.int k)) hp1):RE c sc n F hp (.UnaryOp .USub r p) (.dat (.int (-(k:Int)))) hp1:=λA W s env z=>
 wpAny_UnaryOp (h1.go z λW1 u1 s1 z1 L1 x1=>(by rcases(x1:IsI k u1)with⟨_⟩;exact h9 L1 (PySem.P.neg_int (eS z1.a))))
theorem IE {op:Op}(h1:RE c sc n F hp l u hp1)(h2:RE c sc n F hp1 r v hp2)(h3:a9 c n hp2 (binaryOp (fG op)) c.VT u v w hp3):RE c sc n F hp (.BinOp l (fG op) r p) w hp3:=λA W s env z=>
 wpAny_BinOp (h1.go z λW1 u1 s1 z1 L1 x1=>h2.go z1 λW2 u2 s2 z2 L2 x2=>h9 (L1.trans L2) (h3 A W2 s2 u1 u2 z2.a (x1.mono L2.le) x2))
theorem IF (hn:rs.all cB=true)(h:Ae c sc n F hp rs us hp1)(g:Nat.ble us.length lim=true):RE c sc n F hp (.List rs p) (.ref hp1.length) (hp1++[.lst us]):=λA W s env z=>wpAny_List (by
 rw[cV p env hn]
 exact h.go z λW1 u1 s1 z1 L1 x1=>⟨by rw[R2.len x1];exact bC g,(e8 (t:=s1.toks) z1.a x1).later L1⟩)
noncomputable def vG (xs:List V)(hp:List O):V×List O:=match AO xs with
 |some ds=>(.dat (.tup ds),hp)
 |none=>(.ref hp.length,hp++[.tup xs])
theorem IG {A:Around}{W:Wd}{s:Shared}{xs:List V}{us:List Value}{t:Nat}(z:At c n A W hp s)(d:VRs c.P W xs us):Post c c.VT W hp s (vG xs hp).1 (vG xs hp).2 (.ref s.heap.objs.size) {s with heap:=s.heap.push {cls:=.type "tuple",data:=.seq us.toArray},toks:=t}:=by
 unfold vG
 cases e:AO xs with
 |some ds=>exact q5 z rfl (.mk _ us 0 (if_pos rfl) (DRs.mono (Wd.le_freeze z.rel.new_cold).fz (mL d e)))
 |none=>
  have q:=z.rel.alloc (o:=.tup xs) (.mk us 0 (VRs.mono (Wd.le_push W _) d))
  exact .mk _ q.1 (.of q.2) ⟨z.rel.len▸Nat.lt_succ_self _,congrArg Value.ref (z.rel.push_at _).symm⟩
theorem IH (hn:rs.all cB=true)(h:Ae c sc n F hp rs us hp1)(g:Nat.ble us.length lim=true):RE c sc n F hp (.Tuple rs k p) (vG us hp1).1 (vG us hp1).2:=λA W s env z=>wpAny_Tuple (by
 rw[cV p env hn]
 exact h.go z λW1 u1 s1 z1 L1 x1=>⟨by rw[R2.len x1];exact bC g,(IG (t:=s1.toks) z1.a x1).later L1⟩)
theorem II {op:Cm}(hm:lastMarks [bI op] [x]=false)(h1:RE c sc n F hp r u hp1)(h2:RE c sc n F hp1 x v hp2)(h3:a9 c n hp2 (compareOp (bI op)) eP u v b hp3):RE c sc n F hp (.Compare r [bI op] [x] p) (.dat (.boo b)) hp3:=λA W s env z=>by
 show wpAny _ _ (eval _ env) _ _ _
 rw[arm_eval_Compare,markedEach_of_false _ _ _ hm]
 exact bK (h1.go z λW1 u1 s1 z1 L1 x1=>bK (wpAny_holding (h2.go z1 λW2 u2 s2 z2 L2 x2=>bK (wpAny_standAt (wpAny_operate' (wpAny_mono (h3 A W2 s2 u1 u2 z2.a (x1.mono L2.le) x2) (λ_ _ q=>(ZZ q).later (L1.trans L2)) λ_ _ f=>f))))))
theorem IJ {op:Cm}(hm:lastMarks [bI op] [x]=false)(h1:RE c sc n F hp r u hp1)(h2:RE c sc n F hp1 x v hp2)(h3:a9 c n hp2 (compareOp (bI op)) eP u v b hp3):RB c sc n F hp (.Compare r [bI op] [x] p) b hp3:=λA W s env z=>by
 show wpAny _ _ (PySem.isTrue _ env _) _ _ _
 rw[arm_isTrue_Compare,markedEach_of_false _ _ _ hm]
 exact bK (h1.go z λW1 u1 s1 z1 L1 x1=>bK (wpAny_holding (h2.go z1 λW2 u2 s2 z2 L2 x2=>bK (wpAny_standAt (bK (wpAny_operate' (go z2.a (h3 A W2 s2 u1 u2 z2.a (x1.mono L2.le) x2) λW3 u3 s3 a3 L3 x3=>x3▸wpAny_holding (wpAny_pure (.last (t:=s3.toks) a3 ((L1.trans L2).trans L3) rfl)))))))))
theorem IK {op op':Cm}(hm:lastMarks [bI op,bI op'] [m,x]=false)(h1:RE c sc n F hp r u hp1)(h2:RE c sc n F hp1 m v hp2)(h3:a9 c n hp2 (compareOp (bI op)) eP u v b hp3)
  (h4:b=false→b'=false∧hp5=hp3)(h5:b=true→RE c sc n F hp3 x w hp4∧a9 c n hp4 (compareOp (bI op')) eP v w b' hp5):RE c sc n F hp (.Compare r [bI op,bI op'] [m,x] p) (.dat (.boo b')) hp5:=λA W s env z=>by
 refine Compare_chain (rs:=[]) (h1.go z λW1 u1 s1 z1 L1 x1=>?_) hm
 refine bK (wpAny_holding (h2.go z1 λW2 u2 s2 z2 L2 x2=>bK (wpAny_standAt (bK (wpAny_holding (go z2.a (h3 A W2 s2 u1 u2 z2.a (x1.mono L2.le) x2) λW3 u3 s3 a3 L3 x3=>?_))))))
 have L:=(L1.trans L2).trans L3
 rw[x3]
 refine bK (wpAny_release (bK (wpAny_holding (wpAny_pure ?_))))
 cases b with
 |false=>rw[(h4 rfl).1,(h4 rfl).2];exact wpAny_pure (.last (t:=s3.toks) a3 L rfl)
 |true=>exact bK (wpAny_holding ((h5 rfl).1.go (z2.next L3 a3) λW4 u4 s4 z4 L4 x4=>bK (wpAny_standAt (wpAny_operate' (wpAny_mono ((h5 rfl).2 A W4 s4 u2 u4 z4.a ((x2.mono L3.le).mono L4.le) x4) (λ_ _ q=>(ZZ q).later (L.trans L4)) λ_ _ f=>f)))))
theorem IL {op op':Cm}(hm:lastMarks [bI op,bI op'] [m,x]=false)(h1:RE c sc n F hp r u hp1)(h2:RE c sc n F hp1 m v hp2)(h3:a9 c n hp2 (compareOp (bI op)) eP u v b hp3)
  (h4:b=false→b'=false∧hp5=hp3)(h5:b=true→RE c sc n F hp3 x w hp4∧a9 c n hp4 (compareOp (bI op')) eP v w b' hp5):RB c sc n F hp (.Compare r [bI op,bI op'] [m,x] p) b' hp5:=λA W s env z=>by
 refine isTrue_chain (rs:=[]) (h1.go z λW1 u1 s1 z1 L1 x1=>?_) hm
 refine bK (wpAny_holding (h2.go z1 λW2 u2 s2 z2 L2 x2=>bK (wpAny_standAt (bK (wpAny_holding (go z2.a (h3 A W2 s2 u1 u2 z2.a (x1.mono L2.le) x2) λW3 u3 s3 a3 L3 x3=>?_))))))
 have L:=(L1.trans L2).trans L3
 rw[x3]
 refine bK (wpAny_release (bK (wpAny_holding (wpAny_pure ?_))))
 cases b with
 |false=>rw[(h4 rfl).1,(h4 rfl).2];exact wpAny_pure (.last (t:=s3.toks) a3 L rfl)
 |true=>exact bK (wpAny_holding ((h5 rfl).1.go (z2.next L3 a3) λW4 u4 s4 z4 L4 x4=>bK (wpAny_standAt (bK (wpAny_operate' (go z4.a ((h5 rfl).2 A W4 s4 u2 u4 z4.a ((x2.mono L3.le).mono L4.le) x4) λW5 u5 s5 a5 L5 x5=>x5▸wpAny_holding (wpAny_pure (.last (t:=s5.toks) a5 ((L.trans L4).trans L5) rfl))))))))
theorem IM (he:∀ env whole,PySem.isTrue r env whole=(do let v ← whole;standAt r.pos;holding [v] (truthy v)))(h1:RE c sc n F hp r u hp1)(h2:Bs c n hp1 truthy Br u b hp2):RB c sc n F hp r b hp2:=λA W s env z=>
 wpAny_isTrue_value (h1.go z λW1 u1 s1 z1 L1 x1=>h9 L1 (h2 A W1 s1 u1 z1.a x1)) (he env _)
theorem IN:RB c sc n F hp (.Constant (.bool b) k p) b hp:=λA W s env z=>wpAny_isTrue_value (wpAny_Constant_bool (wpAny_pure (.here z.a rfl)))
theorem IP (h1:RE c sc n F hp r u hp1)(h2:Bs c n hp1 truthy Br u b hp2):RE c sc n F hp (.UnaryOp .Not r p) (.dat (.boo !b)) hp2:=λA W s env z=>
 wpAny_UnaryOp (h1.go z λW1 u1 s1 z1 L1 x1=>not_value (wpAny_mono (h2 A W1 s1 u1 z1.a x1) (λ_ _ q=>(noV q).later L1) λ_ _ f=>f))
theorem IQ (h1:RB c sc n F hp r b hp1):RB c sc n F hp (.UnaryOp .Not r p) (!b) hp1:=λA W s env z=>wpAny_isTrue_Not (wpAny_mono (h1 A W s env z) (λ_ _ q=>noB q) λ_ _ f=>f)
theorem yE (h1:RB c sc n F hp r b hp1)(h2:b=true→RE c sc n F hp1 l v hp2)(h3:b=false→RE c sc n F hp1 x v hp2):RE c sc n F hp (.IfExp r l x p) v hp2:=λA W s env z=>
 wpAny_IfExp (h1.go z λW1 a s1 z1 L1 x1=>by
  rw[show a=b from x1]
  cases b with
  |true=>exact h9 L1 (h2 rfl A W1 s1 env z1)
  |false=>exact h9 L1 (h3 rfl A W1 s1 env z1))
theorem yF (h1:RB c sc n F hp r b hp1)(h2:b=true→RB c sc n F hp1 l b' hp2)(h3:b=false→RB c sc n F hp1 x b' hp2):RB c sc n F hp (.IfExp r l x p) b' hp2:=λA W s env z=>by
 show wpAny _ _ (PySem.isTrue _ env _) _ _ _
 rw[arm_isTrue_IfExp]
 refine bK (h1.go z λW1 a s1 z1 L1 x1=>?_)
 rw[show a=b from x1]
 cases b with
 |true=>exact h9 L1 (h2 rfl A W1 s1 env z1)
 |false=>exact h9 L1 (h3 rfl A W1 s1 env z1)
theorem Nt {op:BoolOp}(h:RE c sc n F hp r v hp1):RA c sc n F hp op p [r] v hp1:=λA W s env z=>by cases op <;>exact h A W s env z
theorem Cj {op:BoolOp}(h1:RE c sc n F hp r u hp1)(h2:Bs c n hp1 truthy Br u b hp2)(h3:b=fJ op→v=u∧hp3=hp2)(h4:b= !fJ op→RA c sc n F hp2 op p (x::rs) v hp3):RA c sc n F hp op p (r::x::rs) v hp3:=λA W s env z=>by
 show wpAny _ A (do let v ← eval r env;standAt p;let t ← holding [v] (truthy v);match op,t with|.And,false|.Or,true=>pure v|_,_=>boolOp p op (evalEach (x::rs) env)) _ _ _
 refine bK (h1.go z λW1 u1 s1 z1 L1 x1=>bK (wpAny_standAt (bK (wpAny_holding (go z1.a (h2 A W1 s1 u1 z1.a x1) λW2 a s2 a2 L2 x2=>?_)))))
 rw[show a=b from x2]
 have L:=L1.trans L2
 have y:b=fJ op→wpAny c.M A (pure u1) (Post c c.VT W hp s v hp3) no s2:=λe=>by rw[(h3 e).1,(h3 e).2];exact wpAny_pure (.last (t:=s2.toks) a2 L (x1.mono L2.le))
 have q:b= !fJ op→wpAny c.M A (boolOp p op (evalEach (x::rs) env)) (Post c c.VT W hp s v hp3) no s2:=λe=>h9 L (h4 e A W2 s2 env (z1.next L2 a2))
 cases op <;>cases b <;>first|exact y rfl|exact q rfl
theorem IR {op:BoolOp}(h:RA c sc n F hp op p rs v hp1):RE c sc n F hp (.BoolOp op rs p) v hp1:=λA W s env z=>by
 show wpAny _ _ (eval _ env) _ _ _
 rw[arm_eval_BoolOp]
 exact h A W s env z
theorem Nu {op:BoolOp}:RL c sc n F hp op [] (!fJ op) hp:=λA W s env z=>match op with
 |.And=>wpAny_allTrue_And_nil (.here z.a rfl)
 |.Or=>wpAny_allTrue_Or_nil (.here z.a rfl)
theorem Ck {op:BoolOp}(h1:RB c sc n F hp r b hp1)(h2:b=fJ op→b'=b∧hp2=hp1)(h3:b= !fJ op→RL c sc n F hp1 op rs b' hp2):RL c sc n F hp op (r::rs) b' hp2:=λA W s env z=>by
 cases op with
 |And=>exact wpAny_allTrue_And_cons (h1.go z λW1 a s1 z1 L1 x1=>by
   rw[show a=b from x1]
   cases b with
   |true=>exact h9 L1 (h3 rfl A W1 s1 env z1)
   |false=>rw[(h2 rfl).1,(h2 rfl).2];exact .last (t:=s1.toks) z1.a L1 rfl)
 |Or=>exact wpAny_allTrue_Or_cons (h1.go z λW1 a s1 z1 L1 x1=>by
   rw[show a=b from x1]
   cases b with
   |false=>exact h9 L1 (h3 rfl A W1 s1 env z1)
   |true=>rw[(h2 rfl).1,(h2 rfl).2];exact .last (t:=s1.toks) z1.a L1 rfl)
theorem IT {op:BoolOp}(h:RL c sc n F hp op rs b hp1):RB c sc n F hp (.BoolOp op rs p) b hp1:=λA W s env z=>wpAny_isTrue_BoolOp (h A W s env z)
theorem IU {ya yb t:Str}{ka kb:Nat}{pa pb:Pos}(hp':(ap.endLine==p.line)=true)(hb:∀ env wh,attributeBase r "replace" env wh=wh)(h1:RE c sc n F hp r (.dat (.str t.cps.toList)) hp1)
  (g1:nb ya.cps.toList yb.cps.toList=false)(g2:uV ya.cps.toList=true)(g3:Nat.ble t.cps.toList.length lim=true)(g4:Nat.ble yb.cps.toList.length 14=true):
  RE c sc n F hp (.Call (.Attribute r "replace" ap) [.Constant (.str ya) ka pa,.Constant (.str yb) kb pb] [] p) (.dat (.str (gR ya.cps.toList yb.cps.toList 0 t.cps.toList))) hp1:=λA W s env z=>by
 have hn:([Expr.Constant (.str ya) ka pa,.Constant (.str yb) kb pb]:List Expr).all cB=true:=rfl
 show wpAny _ _ (eval _ env) _ _ _
 rw[arm_eval_Call,hb]
 refine wpAny_bind (h1.go z λW1 u1 s1 z1 L1 x1=>wpAny_bind (wpAny_standAt ?_))
 obtain⟨t',rfl⟩:=eX rfl x1
 rw[cV p env hn]
 unfold methodCall
 have few:methodCallForm (2+([]:List Keyword).length) (List.map (λr=>(false,eval r env)) [Expr.Constant (.str ya) ka pa,.Constant (.str yb) kb pb]) (backToKw p (keywordEach [] env))=true:=rfl
 rw[show([Expr.Constant (.str ya) ka pa,.Constant (.str yb) kb pb]:List Expr).length=2 from rfl,few]
 unfold calleeOf
 rw[if_pos rfl]
 refine wpAny_bind (wpAny_holding (GM.replace ?_))
 have hpos:methodCallPos true r env ap p=pure p:=by
  unfold methodCallPos
  simp[hp']
 dsimp only
 rw[hpos]
 refine wpAny_bind (wpAny_pure (x9 (spliced_cons (wpAny_Constant_str (spliced_cons (wpAny_Constant_str (spliced_nil ⟨.blt _,?_⟩)))))))
 have tk:=z1.a.tk
 refine SC.replaceW (Nat.ne_of_gt tk) (Nat.ne_of_gt (Nat.succ_pos _)) (Nat.ne_of_lt (Nat.lt_succ_self _)) ?_ (A3 g3) (A3 g4) λt2 k=>?_
 ·rw[← aI ya,← aI yb,Bz];exact g1
 ·have e:=vC t.cps.toList ya.cps.toList yb.cps.toList λq=>by rw[q]at g2;cases g2
  rw[aI ya,aI yb]at e
  have e2:Txt.replace (st t.cps.toList) ya yb=st (gR ya.cps.toList yb.cps.toList 0 t.cps.toList):=(aI _).symm.trans (congrArg st e)
  rw[e2]
  exact(iR z1.a).later L1
noncomputable def PR (P:Params)(W:Wd):List Nm→List V→List (Value×Value)→Prop
 | [],vs,ps=>vs=[]∧ps=[]
 |x::ks,vs,ps=>∃ v vs' t u r,vs=v::vs'∧ps=(.str (st x) t,u)::r∧VR P W v u∧PR P W ks vs' r
noncomputable def pW:List Nm→List V→List (Nm×V)→List (Nm×V)
 |k::ks,v::vs,acc=>pW ks vs (pt acc k v)
 |_,_,acc=>acc
theorem nB {W:Wd}:∀ {ks:List Nm} {vs:List V} {ps:List (Value×Value)},PR c.P W ks vs ps→∃ kvs:List (Str×Value),Carries (SK c) ps kvs∧∀ (acc:List (Nm×V)) (racc:List (Str×Value)),R2 (KR c.P W) acc racc→(acc.map (·.1)).Nodup→
  R2 (KR c.P W) (pW ks vs acc) (merged racc kvs)∧((pW ks vs acc).map (·.1)).Nodup
 | [],_,_=>λw=>by obtain⟨e,e'⟩:=w;subst e e';exact⟨[],trivial,λ_ _ h1 h2=>⟨h1,h2⟩⟩
 |x::ks,_,_=>λw=>by
  obtain⟨v,vs,t,u,r,e,e',a,b⟩:=w
  subst e e'
  obtain⟨kvs,c1,c2⟩:=nB b
  exact⟨(st x,u)::kvs,⟨beq_self_eq_true _,rfl,c1⟩,λacc racc h1 h2=>c2 (pt acc x v) (PySem.stored racc (st x) u) (hZ a h1 h2) (g6 x v h2)⟩
noncomputable abbrev RD (c:Cx)(sc:aH)(n:Nat)(F:Fx)(hp:List O)(p:Pos)(ks:List Nm)(keys:List (Option Expr))(rs:List Expr):List V→List O→Prop:=Run c sc n F hp (λenv=>evalPairs (pairTrees keys rs env p)) (λW vs ps=>PR c.P W ks vs ps)
theorem Nv:RD c sc n F hp p [] [] [] [] hp:=λ_ _ _ _ z=>pairTrees_nil_walk (.here z.a ⟨rfl,rfl⟩)
theorem Nw {t:Str}{ks:List Nm}{keys:List (Option Expr)}(h1:RE c sc n F hp r u hp1)(h2:RD c sc n F hp1 p ks keys rs us hp2):RD c sc n F hp p (t.cps.toList::ks) (some (.Constant (.str t) k ap)::keys) (r::rs) (u::us) hp2:=λA W s env z=>
 have L0:Lat W hp s W hp {s with toks:=s.toks+1}:=⟨.refl ..,.refl _,rfl⟩
 pairTrees_cons_walk (wpAny_Constant_str (h1.go (z.next L0 (z.a.next L0 z.a.rel (Nat.le_succ _))) λW1 u1 s1 z1 L1 x1=>h2.go z1 λW2 ps s2 z2 L2 x2=>.mk W2 z2.a.rel ((L0.trans L1).trans L2) ⟨u,us,s.toks,u1,ps,rfl,by rw[aI],x1.mono L2.le,x2⟩))
theorem IV {ks:List Nm}{keys:List (Option Expr)}(g:(keys.all (·.isSome)&&(Nat.beq keys.length rs.length&&(uV keys&&Nat.ble keys.length 15)))=true)(h:RD c sc n F (hp++[.ns []]) p ks keys rs us hp1)(e:hp1[hp.length]?.bind O.nsE=some []):
  RE c sc n F hp (.Dict keys rs p) (.ref hp.length) (hp1.set hp.length (.ns (pW ks us []))):=λA W s env z=>by
 have g:=A0 g
 have g2:=A0 g.2
 have g3:=A0 g2.2
 refine wpAny_Dict_walk (knd:=SK c) g.1 (B0 g2.1) (λq=>by rw[q]at g3;cases g3.1) (A3 g3.2) ?_
 have q:=z.a.rel.alloc (o:=.ns []) (ob:={cls:=.type "dict",data:=.dict #[]}) ⟨List.nodup_nil,.mk [] 0 rfl⟩
 have L0:Lat W hp s _ _ {s with heap:=_}:=.of (t:=s.toks) q.2
 have lt:hp.length < (W.push s.heap.objs.size).n:=z.a.rel.len▸Nat.lt_succ_self _
 refine h.go (z.next L0 (z.a.next L0 q.1 (A7 _))) λW1 ps s1 z1 L1 x1=>?_
 obtain⟨kvs,c1,c2⟩:=nB x1
 have at_:W1.ρ hp.length=s.heap.objs.size:=(L1.le.ρ _ lt).trans (z.a.rel.push_at _)
 obtain⟨en,kk,g,E,nd⟩:=z1.a.rel.ns (fZ e)
 obtain rfl:en=[]:=E
 rw[at_]at g
 refine⟨kvs,c1,⟨_,_,kk,g,⟨rfl,rfl,rfl⟩,rfl,λe m=>absurd (List.mem_toArray.mp m) List.not_mem_nil,.nil,List.nodup_nil⟩,λh' d sb=>?_⟩
 obtain⟨q1,q2⟩:=c2 [] [] rfl List.nodup_nil
 have y:=z1.a.rel.change (o':=.ns (pW ks us [])) (fZ e) (λb ne=>sb.2 b (at_▸ne)) (at_.symm▸kS d q1 q2) (z1.a.rel.nof (fZ e) λ_=>nofun)
 exact .mk W1 y.1 ⟨(L0.trans L1).e.trans y.2,(L0.trans L1).g,(L0.trans L1).o⟩ ⟨A6 lt L1.le.n,congrArg Value.ref at_.symm⟩
end
end
section
noncomputable abbrev RS (c:Cx)(sc:aH)(n:Nat)(F:Fx)(hp:List O)(t:Stmt):Fl→List O→Prop:=Run c sc n F hp (λenv=>exec t env) c.FT
noncomputable abbrev RX (c:Cx)(sc:aH)(n:Nat)(F:Fx)(hp:List O)(ts:List Stmt):Fl→List O→Prop:=Run c sc n F hp (λenv=>execs ts env) c.FT
noncomputable def RG (c:Cx)(sc:aH)(n:Nat)(F:Fx)(hp:List O)(r:Expr)(v:V)(hp':List O):Prop:=∀ A W s env u,AtF c sc n F hp A W s env→VR c.P W v u→c.wp A (assign r env u) (Post c qT W hp s () hp') s
noncomputable def Rv (c:Cx)(sc:aH)(n:Nat)(F:Fx)(hp:List O)(rs:List Expr)(vs:List V)(hp':List O):Prop:=∀ A W s env us,AtF c sc n F hp A W s env→VRs c.P W vs us→c.wp A (assignInOrder (rs.map λt=>assign t env) us) (Post c qT W hp s () hp') s
noncomputable def Fl.goes:Fl→Bool
 |.next=>true
 |_=>false
noncomputable def jU (r:Expr):Bool:= !(Nat.beq r.ctorIdx 8||(Nat.beq r.ctorIdx 9||Nat.beq r.ctorIdx 10))
theorem gJ {r:Expr}(h:jU r=true)(t:Option Expr)(l:Nat)(env:Env):swapsWith r t l env=pure false:=by
 cases r with
 |ListComp=>exact nomatch h
 |SetComp=>exact nomatch h
 |DictComp=>exact nomatch h
 |_=>rfl
theorem dB (env:Env):∀ {rs:List Expr},rs.all cB=true→assignEach rs env=rs.map λr=>(false,assign r env)
 | [],_=>rfl
 |r::rs,h=>by
  have h:=A0 h
  have ih:=dB env h.2
  cases r with
  |Starred=>exact nomatch h.1
  |_=>exact congrArg (List.cons (false,_)) ih
section
variable {c:Cx}{W:Wd}{hp hp1:List O}{s s1:Shared}
theorem Post.nxt:Post c qT W hp s () hp1 () s1→Post c c.FT W hp s .next hp1 .next s1
 |.mk W' r l _=>.mk W' r l rfl
end
section
variable {c:Cx}{sc:aH}{n:Nat}{F:Fx}{hp hp1 hp2 hp3 hp4 hp5 hp6:List O}{p ap px:Pos}{r g l x m:Expr}{rs:List Expr}{u v w y:V}{us:List V}{k:Nat}{b:Bool}{t:Stmt}{ts ts2:List Stmt}{fl:Fl}{q:Str}
theorem Co:RX c sc n F hp [] .next hp:=λ_ _ _ _ z=>wpAny_execs_nil (.here z.a rfl)
theorem cP (h1:RS c sc n F hp t .next hp1)(h2:RX c sc n F hp1 ts fl hp2):RX c sc n F hp (t::ts) fl hp2:=λA W s env z=>by
 show wpAny _ _ (execs _ env) _ _ _
 rw[execs_cons]
 exact bK (h1.go z λW1 f s1 z1 L1 x1=>(show f=.next from x1)▸h9 L1 (h2 A W1 s1 env z1))
theorem IW (h1:RS c sc n F hp t fl hp1)(g:fl.goes=false):RX c sc n F hp (t::ts) fl hp1:=λA W s env z=>by
 show wpAny _ _ (execs _ env) _ _ _
 rw[execs_cons]
 refine bK (h1.go z λW1 f s1 z1 L1 x1=>?_)
 have d:Post c c.FT W hp s fl hp1 f s1:=.last (t:=s1.toks) z1.a L1 x1
 cases fl with
 |next=>cases g
 |brk=>rw[show f=.brk from x1]at d ⊢;exact wpAny_pure d
 |cont=>rw[show f=.cont from x1]at d ⊢;exact wpAny_pure d
 |ret v=>exact(show ∃ u,f=.ret u∧VR c.P W1 v u from x1).elim λu e=>by rw[e.1]at d ⊢;exact wpAny_pure d
theorem Ny (hc:jU r=true)(h:RE c sc n F hp r v hp1):RS c sc n F hp (.Expr r p) .next hp1:=λA W s env z=>
 wpAny_Expr_any (h.go z λW1 u1 s1 z1 L1 _=>.last (t:=s1.toks) z1.a L1 rfl) (by unfold interactive;rw[z.f.kind];rfl) (gJ hc _ _ _)
theorem Nz (h:RE c sc n F hp r v hp1):RS c sc n F hp (.Return (some r) p) (.ret v) hp1:=λA W s env z=>
 wpAny_Return_some (h.go z λW1 u1 s1 z1 L1 x1=>.last (t:=s1.toks) z1.a L1 ⟨u1,rfl,x1⟩)
theorem OA:RS c sc n F hp (.Break p) .brk hp:=λ_ _ _ _ z=>wpAny_Break (.here z.a rfl)
theorem OC:RS c sc n F hp (.Pass p) .next hp:=λ_ _ _ _ z=>wpAny_Pass (.here z.a rfl)
theorem OD {o:Option Expr}(h:RB c sc n F hp r true hp1):RS c sc n F hp (.Assert r o p) .next hp1:=λA W s env z=>
 wpAny_Assert_holds (h.go z λW1 a s1 z1 L1 x1=>⟨x1,.last (t:=s1.toks) z1.a L1 rfl⟩)
theorem Cp (h1:RB c sc n F hp r b hp1)(h2:b=true→RX c sc n F hp1 ts fl hp2)(h3:b=false→RX c sc n F hp1 ts2 fl hp2):RS c sc n F hp (.If r ts ts2 p) fl hp2:=λA W s env z=>
 wpAny_If (h1.go z λW1 a s1 z1 L1 x1=>by
  rw[show a=b from x1]
  cases b with
  |true=>exact h9 L1 (h2 rfl A W1 s1 env z1)
  |false=>exact h9 L1 (h3 rfl A W1 s1 env z1))
theorem dL (hk:sc.lookup q=some .local)(e:e7 F q.cps.toList v hp=some hp1):RG c sc n F hp (.Name q p) v hp1:=λA W s env u z hv=>
 wpAny_assign_Name (by have:=qV (x:=q.cps.toList) z (by rw[aI];unfold Env.kindOf;rw[z.sc];exact hk) hv e;rwa [aI]at this)
theorem OE (hk:sc.lookup q=some .cell)(e:HR F q.cps.toList v hp=some hp1):RG c sc n F hp (.Name q p) v hp1:=λA W s env u z hv=>
 wpAny_assign_Name (by have:=Bt (x:=q.cps.toList) z (by rw[aI];unfold Env.kindOf;rw[z.sc];exact hk) hv e;rwa [aI]at this)
theorem OF (h1:RE c sc n F hp r u hp1)(h2:a9 c n hp1 (λu w=>setAttr u (st q.cps.toList) w) qT u v () hp2):RG c sc n F hp (.Attribute r q p) v hp2:=λA W s env w z hv=>by
 rw[aI]at h2
 rw[arm_assign_Attribute]
 exact bK (wpAny_holding (h1.go z λW1 u1 s1 z1 L1 x1=>bK (wpAny_standAt (bK (wpAny_holding (wpAny_mono (h2 A W1 s1 u1 w z1.a x1 (hv.mono L1.le)) (λ_ _ q=>wpAny_release (q.later L1)) λ_ _ f=>f))))))
noncomputable abbrev XC (c:Cx)(n:Nat)(hp:List O)(o i x:V)(hp':List O):Prop:=∀ A W s u v w,At c n A W hp s→VR c.P W o u→VR c.P W i v→VR c.P W x w→c.wp A (setItem u v w) (Post c qT W hp s () hp') s
theorem Cq (h1:RE c sc n F hp r u hp1)(h2:RE c sc n F hp1 x w hp2)(h3:XC c n hp2 u w v hp3):RG c sc n F hp (.Subscript r x p) v hp3:=λA W s env y z hv=>by
 rw[arm_assign_Subscript]
 exact bK (wpAny_holding (h1.go z λW1 u1 s1 z1 L1 x1=>bK (wpAny_holding (h2.go z1 λW2 u2 s2 z2 L2 x2=>bK (wpAny_standAt (bK (wpAny_holding (wpAny_mono (h3 A W2 s2 u1 u2 y z2.a (x1.mono L2.le) x2 (hv.mono (L1.trans L2).le)) (λ_ _ q=>wpAny_release (q.later (L1.trans L2))) λ_ _ f=>f))))))))
theorem OG:Rv c sc n F hp [] [] hp:=λA W s env us z hv=>by
 obtain rfl:us=[]:=hv
 exact wpAny_pure (.here z.a trivial)
theorem IX (h1:RG c sc n F hp r v hp1)(h2:Rv c sc n F hp1 rs us hp2):Rv c sc n F hp (r::rs) (v::us) hp2:=λA W s env _ z (.mk (a:=u1) (l:=us1) hu hr)=>by
 show wpAny _ A (do holding us1 (assign r env u1);assignInOrder (rs.map λt=>assign t env) us1) _ _ _
 exact bK (wpAny_holding (go z.a (h1 A W s env u1 z hu) λW1 _ s1 a1 L1 _=>h9 L1 (h2 A W1 s1 env us1 (z.next L1 a1) (VRs.mono L1.le hr))))
theorem strange {A:Around}{W:Wd}{s:Shared}{h':Heap}(z:At c n A W hp s)(kp:∀ b o,b≠s.heap.objs.size→s.heap.get? b=some o→h'.get? b=some o):Rel c.P W hp h'∧Lat W hp s W hp {s with heap:=h'}:=
 ⟨z.rel.poke z.rel.new_live z.rel.new_cold kp,.of (t:=s.toks) ((Ext.refl W hp s.heap).poke (match e:s.heap.get? s.heap.objs.size with|none=>rfl|some _=>absurd (Heap.lt_size e) (Nat.lt_irrefl _)) kp)⟩
theorem OH {vs:List V}(hn:rs.all cB=true)(hl:Nat.beq vs.length rs.length=true)(e:dK v hp=some vs)(h:Rv c sc n F hp rs vs hp1):RG c sc n F hp (.Tuple rs k p) v hp1:=λA W s env u z hv=>match u,cM z.a.rel hv e with
 |_,.mk a us m I d=>by
  have el:=dB env hn
  refine wpAny_assign_Tuple z.a.room.hd (items:=us.toArray) ⟨_,I,rfl,m,rfl⟩ ?_ ?_ λh' sb=>?_
  ·rw[el,List.length_map,List.size_toArray,R2.len d,B0 hl]
  ·rw[el,List.findIdx?_map]
   exact List.findIdx?_eq_none_iff.mpr λ_ _=>rfl
  ·rw[el,List.map_map]
   have q:=strange z.a λb o ne e=>sb b o ne e
   exact h9 q.2 (h A W _ env us (z.next q.2 (z.a.next q.2 q.1 (A7 _))) d)
theorem OI (h0:(cB g&&jU r)=true)(hs:∀ env,env.scope.kind=.function→env.scope.names=sc→swappedStores [g] r env=pure none)(h1:RE c sc n F hp r v hp1)(h2:RG c sc n F hp1 g v hp2):RS c sc n F hp (.Assign [g] r p) .next hp2:=λA W s env z=>by
 have h0:=A0 h0
 refine wpAny_Assign_stores (h1.go z λW1 u1 s1 z1 L1 x1=>?_) (gJ h0.2 _ _ _) (hs env z.f.kind z.sc)
 have e:(assignEach [g] env).map (·.2)=[assign g env]:=by
  rw[dB env (rs:=[g]) (Bool.and_eq_true_iff.mpr ⟨h0.1,rfl⟩)]
  rfl
 rw[e]
 exact wpAny_mono (h2 A W1 s1 env u1 z1 x1) (λ_ _ q=>(q.nxt).later L1) λ_ _ f=>f
theorem OJ {op:Op}(hk:sc.lookup q=some .local)(e:AS F q.cps.toList hp=some u)(h2:RE c sc n F hp r w hp1)(h3:a9 c n hp1 (inplaceOp (fG op)) c.VT u w v hp2)(e2:e7 F q.cps.toList v hp2=some hp3):RS c sc n F hp (.AugAssign (.Name q px) (fG op) r p) .next hp3:=λA W s env z=>by
 have hk':env.kindOf (st q.cps.toList)=some .local:=by rw[aI];unfold Env.kindOf;rw[z.sc];exact hk
 have l1:=Lz z hk' e
 rw[aI]at l1
 show wpAny _ _ (exec _ env) _ _ _
 rw[arm_exec_AugAssign]
 refine bK (wpAny_standAt (bK (go z.a l1 λW1 u1 s1 a1 L1 x1=>bK (wpAny_holding (h2.go (z.next L1 a1) λW2 u2 s2 z2 L2 x2=>bK (wpAny_standAt (bK (wpAny_operate' (go z2.a (h3 A W2 s2 u1 u2 z2.a (x1.mono L2.le) x2) λW3 u3 s3 a3 L3 x3=>?_)))))))))
 have s3':=qV (z2.next L3 a3) hk' x3 e2
 rw[aI]at s3'
 exact bK (wpAny_standAt (bK (wpAny_bindName (wpAny_mono s3' (λ_ _ q=>wpAny_pure (q.nxt.later ((L1.trans L2).trans L3))) λ_ _ f=>f))))
theorem OL {op:Op}(h1:RE c sc n F hp l y hp1)(h2:∀ e,Bs c n hp1 (λu=>getAttr u (st q.cps.toList) e) c.VT y u hp2)(h3:RE c sc n F hp2 r w hp3)(h4:a9 c n hp3 (inplaceOp (fG op)) c.VT u w v hp4)(h5:a9 c n hp4 (λu w=>setAttr u (st q.cps.toList) w) qT y v () hp5):
  RS c sc n F hp (.AugAssign (.Attribute l q px) (fG op) r p) .next hp5:=λA W s env z=>by
 rw[aI]at h2 h5
 refine wpAny_AugAssign_AttributeAny (h1.go z λW1 u1 s1 z1 L1 x1=>go z1.a (h2 _ A W1 s1 u1 z1.a x1) λW2 u2 s2 a2 L2 x2=>h3.go (z1.next L2 a2) λW3 u3 s3 z3 L3 x3=>go z3.a (h4 A W3 s3 u2 u3 z3.a (x2.mono L3.le) x3) λW4 u4 s4 a4 L4 x4=>?_)
 exact wpAny_mono (h5 A W4 s4 u1 u4 a4 (((x1.mono L2.le).mono L3.le).mono L4.le) x4) (λ_ _ q=>q.nxt.later (((L1.trans L2).trans L3).trans L4)) λ_ _ f=>f
theorem OM {op:Op}(hn:hG x=true)(h1:RE c sc n F hp l y hp1)(h2:RE c sc n F hp1 x w hp2)(h3:a9 c n hp2 getItem c.VT y w u hp3)(h4:RE c sc n F hp3 r v hp4){v':V}(h5:a9 c n hp4 (inplaceOp (fG op)) c.VT u v v' hp5)(h6:XC c n hp5 y w v' hp6):
  RS c sc n F hp (.AugAssign (.Subscript l x px) (fG op) r p) .next hp6:=λA W s env z=>by
 refine wpAny_AugAssign_SubscriptAny (h1.go z λW1 u1 s1 z1 L1 x1=>h2.go z1 λW2 u2 s2 z2 L2 x2=>go z2.a (h3 A W2 s2 u1 u2 z2.a (x1.mono L2.le) x2) λW3 u3 s3 a3 L3 x3=>h4.go (z2.next L3 a3) λW4 u4 s4 z4 L4 x4=>go z4.a (h5 A W4 s4 u3 u4 z4.a (x3.mono L4.le) x4) λW5 u5 s5 a5 L5 x5=>?_)
  (by intro a b c;cases x with
  |Slice=>exact nomatch hn
  |_=>rfl)
 exact wpAny_mono (h6 A W5 s5 u1 u2 u5 a5 ((((x1.mono L2.le).mono L3.le).mono L4.le).mono L5.le) (((x2.mono L3.le).mono L4.le).mono L5.le) x5) (λ_ _ q=>q.nxt.later ((((L1.trans L2).trans L3).trans L4).trans L5)) λ_ _ f=>f
end
section
variable {c:Cx}{sc:aH}{n:Nat}{F:Fx}{hp hp1:List O}{body:List Stmt}{h0:ExceptHandler}{hs:List ExceptHandler}{p:Pos}{fl:Fl}
theorem ON (h:RX c sc n F hp body fl hp1):RS c sc n F hp (.Try body (h0::hs) [] [] p) fl hp1:=λA W s env z=>by
 refine wpAny_Try_except (wpAny_mono (E:=no) (h A W s env z) (λf s' p=>?_) λ_ _ f=>f.elim)
 cases f with
 |next=>exact wpAny_execs_nil p
 |_=>exact p
end
end
section
noncomputable def Cr (a:Int):Nat→Nat→List V
 |0,_=>[]
 |n+1,i=>.dat (.int (a+i))::Cr a n (i+1)
noncomputable def kX (a b:Int):Nat:=(b-a).toNat
theorem jV (a:Int):∀ (n i k:Nat),(Cr a n i)[k]? =if k<n then some (.dat (.int (a+(i+k:Nat))))else none
 |0,_,_=>rfl
 |n+1,i,0=>rfl
 |n+1,i,k+1=>(jV a n (i+1) k).trans (by rw[Nat.add_right_comm,Nat.add_assoc];by_cases h:k<n;rw[if_pos h,if_pos (Nat.succ_lt_succ h)];rw[if_neg h,if_neg λq=>h (Nat.lt_of_succ_lt_succ q)])
noncomputable def yG (x:Nm):List V:=x.map λa=>.dat (.str [a])
noncomputable def cW (v:V)(hp:List O):Option (List V):=match v with
 |.dat (.str x)=>some (yG x)
 |.dat (.tup ds)=>some (ds.map .dat)
 |.dat (.dct es)=>some (es.map λp=>.dat (.str p.1))
 |.rng a b=>some (Cr a (kX a b) 0)
 |v=>items v hp
noncomputable def Ct:List Nm→Bool
 | []=>true
 |x::r=> !aO x r&&Ct r
theorem sY {x:Nm}{l:List Nm}(m:x∈l):aO x l=true:=List.any_eq_true.mpr ⟨x,m,eW x⟩
theorem yH:∀ {l:List Nm},Ct l=true→l.Nodup
 | [],_=>List.nodup_nil
 |x::r,h=>have h:=A0 h;List.nodup_cons.mpr ⟨λm=>A8 (((Bool.not_eq_true' _).mp h.1).symm.trans (sY m)),yH h.2⟩
noncomputable def Xn (es:List (Nm×D)):Bool:=Ct (es.map (·.1))&& !aO Bp (es.map (·.1))
noncomputable def pC:V→Bool
 |.rng a b=>eR a&&eR b
 |.dat (.dct es)=>Xn es
 |_=>true
noncomputable def eI (it:Addr)(h h':Heap):Prop:=∀ b o,b≠it→h.get? b=some o→h'.get? b=some o
theorem b6 {a:Addr}{h h':Heap}(x:Heap.SameBut a h h'):eI a h h':=λb _ q e=>(x.2 b q).trans e
section
variable {c:Cx}
structure NextOk (c:Cx) (it:Addr) (Φ:Nat→Obj→Prop) (W:Wd) (hp:List O) (s:Shared) (k:Nat) (all:List V):Prop where
 item:∀ (x:V) (A:Around) (Q:Option Value→Shared→Prop),all[k]? =some x→
   (∀ h' t' u,VR c.P W x u→Got h' it (Φ (k+1))→eI it s.heap h'→Q (some u) {s with heap:=h',toks:=t'})→c.wp A (pyNext (.ref it)) Q s
 stop:∀ (A:Around) (Q:Option Value→Shared→Prop),A.handled=none→all[k]? =none→(∀ h' t',eI it s.heap h'→Q none {s with heap:=h',toks:=t'})→c.wp A (pyNext (.ref it)) Q s
noncomputable def pX (c:Cx)(it:Addr)(Φ:Nat→Obj→Prop)(v:V)(W0:Wd):Prop:=∀ W hp s k all,W0.le W→Rel c.P W hp s.heap→Got s.heap it (Φ k)→cW v hp=some all→NextOk c it Φ W hp s k all
theorem Af {v:V}{u:Value}{it l:Addr}{W0:Wd}(hu:u=.ref l)(hv:VR c.P W0 v u)(hi:∀ hp xs,cW v hp=some xs→items v hp=some xs):
  pX c it (λk o=>o.cls=.type "list_iterator" ∧o.data=.fields #[.ref l,.int k 0]) v W0:=λW hp s k all le R g e=>match g with
 |.mk o ho h=>by
  subst hu
  have I':s.heap.IsListIter it l k:=⟨o,ho,h.1,h.2⟩
  obtain⟨us,n,I,d⟩:∃ us n,s.heap.get? l=some ⟨.type "list",none,.seq (List.toArray us) n,#[]⟩∧VRs c.P W all us:=match aP R (hv.mono le) (hi _ _ e)with
   |.mk _ us n I d=>⟨us,n,I,d⟩
  have L:s.heap.IsList l us.toArray:=⟨_,I,rfl,n,rfl⟩
  exact⟨λx A Q ex q=>(R2.at d ex).elim λu r=>wpAny_pyNext_list_item I' L ((List.getElem?_toArray ..).trans r.1) λh' ⟨o',g1,g2,g3⟩ sb=>q h' s.toks u r.2 (.mk o' g1 ⟨g2,g3⟩) (b6 sb),
   λA Q hh ex q=>wpAny_pyNext_list_end hh I' L (by rw[List.getElem?_toArray,List.getElem?_eq_none_iff,R2.len d];exact List.getElem?_eq_none_iff.mp ex) λh' sb=>q h' s.toks λb o q e=>sb b o q e⟩
theorem vH {v:V}{u:Value}{it l:Addr}{W0:Wd}(hu:u=.ref l)(hv:VR c.P W0 v u)(hi:∀ hp xs,cW v hp=some xs→dK v hp=some xs):
  pX c it (λk o=>o.cls=.type "tuple_iterator" ∧o.data=.fields #[.ref l,.int k 0]) v W0:=λW hp s k all le R g e=>match g with
 |.mk o ho h=>by
  subst hu
  have I':s.heap.IsTupleIter it l k:=⟨o,ho,h.1,h.2⟩
  obtain⟨us,n,I,d⟩:∃ us n,s.heap.get? l=some ⟨.type "tuple",none,.seq (List.toArray us) n,#[]⟩∧VRs c.P W all us:=match cM R (hv.mono le) (hi _ _ e)with
   |.mk _ us n I d=>⟨us,n,I,d⟩
  have L:s.heap.IsTuple l us.toArray:=⟨_,I,rfl,n,rfl⟩
  exact⟨λx A Q ex q=>(R2.at d ex).elim λu r=>wpAny_pyNext_tuple_item I' L ((List.getElem?_toArray ..).trans r.1) λh' ⟨o',g1,g2,g3⟩ sb=>q h' s.toks u r.2 (.mk o' g1 ⟨g2,g3⟩) (b6 sb),
   λA Q hh ex q=>wpAny_pyNext_tuple_end hh I' L (by rw[List.getElem?_toArray,List.getElem?_eq_none_iff,R2.len d];exact List.getElem?_eq_none_iff.mp ex) λh' sb=>q h' s.toks λb o q e=>sb b o q e⟩
theorem sZ {x:Nm}{it:Addr}{t:Tok}{W0:Wd}{ty:String}(hty:ty="str_ascii_iterator" ∨ty="str_iterator"):
  pX c it (λk o=>o.cls=.type ty∧o.data=.fields #[.str (st x) t,.int k 0]) (.dat (.str x)) W0:=λW hp s k all le R g e=>match g with
 |.mk o ho h=>by
  cases e
  have I':s.heap.IsStrIter it ty (st x) t k:=⟨o,ho,h.1,h.2⟩
  have at_:(st x).cps[k]? =x[k]? :=List.getElem?_toArray ..
  refine⟨λy A Q ex q=>?_,λA Q hh ex q=>?_⟩
  ·obtain⟨a,ha,rfl⟩:=bA (List.getElem?_map.symm.trans ex)
   rcases hty with rfl|rfl
   ·exact wpAny_pyNext_ascii_item I' (at_.trans ha) λh' ⟨o',g1,g2,g3⟩ sb=>q h' (s.toks+1) _ (.mk _) (.mk o' g1 ⟨g2,g3⟩) (b6 sb)
   ·exact wpAny_pyNext_wide_item I' (at_.trans ha) λh' ⟨o',g1,g2,g3⟩ sb=>q h' (s.toks+1) _ (.mk _) (.mk o' g1 ⟨g2,g3⟩) (b6 sb)
  ·have ha:x[k]? =none:=Option.map_eq_none_iff.mp (List.getElem?_map.symm.trans ex)
   rcases hty with rfl|rfl
   ·exact wpAny_pyNext_ascii_end hh I' (at_.trans ha) λh' sb=>q h' s.toks λb o q e=>sb b o q e
   ·exact wpAny_pyNext_wide_end hh I' (at_.trans ha) λh' sb=>q h' s.toks λb o q e=>sb b o q e
theorem Cu {a b:Int}{k:Nat}(h:k<kX a b):a<b∧0<b-a - (k:Int)∧a+(k:Int)+1=a+((k+1:Nat):Int)∧b-a - (k:Int)-1=b-a - ((k+1:Nat):Int):=by unfold kX at h;lia
theorem IY {a b:Int}{k:Nat}(h:¬ k<kX a b):(if a<b then b-a else 0) - (k:Int)≤0:=by unfold kX at h;split <;>lia
theorem vI {a b:Int}{it:Addr}{W0:Wd}:pX c it (λk o=>o={cls:=.type "range_iterator",data:=.fields #[rawInt (a+k),rawInt ((if a<b then b-a else 0)-k),rawInt 1]}) (.rng a b) W0:=λW hp s k all le R g e=>match g with
 |.mk o ho h=>by
  cases e
  subst h
  have I':IsRangeIter s.heap it (a+k) ((if a<b then b-a else 0)-k) 1:=ho
  refine⟨λy A Q ex q=>?_,λA Q hh ex q=>?_⟩
  ·rw[jV]at ex
   by_cases h:k<kX a b
   ·rw[if_pos h,Nat.zero_add]at ex
    cases ex
    obtain⟨h1,h2,h3,h4⟩:=Cu h
    rw[if_pos h1]at I'
    refine wpAny_pyNext_range_item I' h2 λh' g sb=>q h' (s.toks+1) _ (.mk _) (.mk _ g ?_) (b6 sb)
    rw[if_pos h1,h3,h4]
   ·rw[if_neg h]at ex;cases ex
  ·rw[jV]at ex
   by_cases h:k<kX a b
   ·rw[if_pos h]at ex;cases ex
   ·exact wpAny_pyNext_range_end hh I' (IY h) λh' sb=>q h' s.toks λb o q e=>sb b o q e
theorem Cv {es:List (Nm×D)}{W:Wd}{hp:List O}{h:Heap}{a:Addr}{en:List DictEntry}{n:Nat}(R:Rel c.P W hp h)(f:W.fz a=some ⟨.type "dict",none,.dict en.toArray n,#[]⟩)(d:DRe c.P W.fz es en)(g:Ct (es.map (·.1))=true):
  ∃ kvs:List (Str×Value),kvs.map (·.1)=(es.map (·.1)).map st∧kvs.length=es.length∧h.DictAt (SK c) a kvs n:=by
 have E:=DRe.er d
 obtain⟨ks,r,p⟩:=ER.rows (c:=c) E
 have e:ks.map (·.1)=(es.map (·.1)).map st:=(KR.keys r).trans (by rw[List.map_map (f:=λp:Nm×D=>(p.1,V.dat p.2))];rfl)
 exact⟨ks,e,(R2.len r).trans (List.length_map ..),_,_,R.fz _ _ f,⟨rfl,rfl,rfl⟩,rfl,E.keysOf,p,e▸g9 (yH g)⟩
theorem Ag {es:List (Nm×D)}{it a:Addr}{en:List DictEntry}{n:Nat}{W0:Wd}(f:W0.fz a=some ⟨.type "dict",none,.dict en.toArray n,#[]⟩)(d:DRe c.P W0.fz es en)(g:Ct (es.map (·.1))=true):
  pX c it (λk o=>o.cls=.type "dict_keyiterator" ∧o.data=.fields #[.ref a,.int k 0,.int es.length 0,.int n 0]) (.dat (.dct es)) W0:=λW hp s k all le R g' e=>match g' with
 |.mk o ho h=>by
  cases e
  obtain⟨kvs,k1,k2,hm⟩:=Cv R (le.fz _ _ f) (DRe.mono le.fz d) g
  have I':s.heap.IsKeyIter it a k kvs.length n:=⟨o,ho,h.1,k2▸h.2⟩
  have at_:∀ i:Nat,(kvs[i]?).map (·.1)=(es[i]?).map λp=>st p.1:=λi=>by
   rw[← List.getElem?_map,k1,List.map_map,List.getElem?_map];rfl
  refine⟨λy A Q ex q=>?_,λA Q hh ex q=>?_⟩
  ·obtain⟨p,hp,rfl⟩:=bA (List.getElem?_map.symm.trans ex)
   have:=at_ k
   rw[hp]at this
   obtain⟨kv,hk,e1⟩:=bA this
   refine wpAny_pyNext_dict_item I' hm (k:=kv.1) (v:=kv.2) hk λkey h' ki ⟨o',g1,g2,g3⟩ sb=>q h' s.toks key ?_ (.mk o' g1 ⟨g2,k2▸g3⟩) (b6 sb)
   have ki:Value.isStrOf kv.1 key=true:=ki
   obtain⟨t,rfl⟩:=Value.isStrOf_shape ki
   exact(show st p.1=kv.1 from e1.symm) ▸ .mk t
  ·have hn:es[k]? =none:=Option.map_eq_none_iff.mp (List.getElem?_map.symm.trans ex)
   have:=at_ k
   rw[hn]at this
   exact wpAny_pyNext_dict_end hh I' hm (Option.map_eq_none_iff.mp this) λh' sb=>q h' s.toks λb o q e=>sb b o q e
noncomputable def Cw:List String:=["enumerate","zip","dict_itemiterator","dict_reverseitemiterator","odict_iterator","itertools.zip_longest","itertools.pairwise"]
noncomputable def lX (c:Cx)(T:String):Prop:=∀ (A:Around) (s:Shared) (it:Addr) (Q:Value→Shared→Prop),s.TypeIs (.ref it) T→Q (.ref it) s→c.wp A (pyIter (.ref it)) Q s
theorem kY {T id:String}{B:Builtin}{r:Value}(slot:Slot T "__iter__" id)(entry:entryFor table id=some B)(args:∀ v,argsOk id ⟨[v],[]⟩)(run:∀ v,B ⟨[v],[]⟩=ret v)(next:typeLookup (.type T) "__next__" =pure (some r)):lX c T:=λA s it Q hT h=>by
 refine wpAny_pyIter_slot hT slot (wpAny_call_entry slot hT entry ?_ (args _))
 show wpAny _ _ (B ⟨[.ref it],[]⟩) _ _ s
 rw[run]
 exact wpAny_pure ⟨_,rfl,T,_,hT,next,h⟩
structure ItT (c:Cx) (o:Obj) (T:String):Prop where
 cls:o.cls=.type T
 own:Cw.contains T=false
 nf:(T=="frame")=false
 self:lX c T
noncomputable def yI (c:Cx)(Φ:Nat→Obj→Prop):Prop:=∀ k o,Φ k o→∃ T,ItT c o T
theorem Ah:lX c "dict_keyiterator" :=kY F.slot_dict_keyiterator_iter F.entry_dict_keyiterator_iter F.args_dict_keyiterator_iter_1 (λ_=>rfl) F.slot_dict_keyiterator_next.lookup
theorem pY:lX c "list_iterator" :=kY slot_listiter_iter entry_listiter_iter args_listiter_iter (λ_=>rfl) slot_listiter_next.lookup
theorem vJ:lX c "tuple_iterator" :=kY F.slot_tuple_iterator_iter F.entry_tuple_iterator_iter F.args_tuple_iterator_iter_1 (λ_=>rfl) F.slot_tuple_iterator_next.lookup
theorem vK:lX c "str_ascii_iterator" :=kY F.slot_str_ascii_iterator_iter F.entry_str_ascii_iterator_iter F.args_str_ascii_iterator_iter_1 (λ_=>rfl) F.slot_str_ascii_iterator_next.lookup
theorem Ai:lX c "str_iterator" :=kY F.slot_str_iterator_iter F.entry_str_iterator_iter F.args_str_iterator_iter_1 (λ_=>rfl) F.slot_str_iterator_next.lookup
theorem vL:lX c "range_iterator" :=kY F.slot_range_iterator_iter F.entry_range_iterator_iter F.args_range_iterator_iter_1 (λ_=>rfl) F.slot_range_iterator_next.lookup
theorem IZ {o:Obj}{T:String}(e:o.cls=.type T)(n:(T=="frame")=false):frm o=false:=by
 obtain⟨c,d,x,s⟩:=o
 cases(e:c=.type T)
 cases x with
 |dict=>exact decide_eq_false (beq_eq_false_iff_ne.mp n)
 |_=>rfl
structure ItOk (c:Cx) (it:Addr) (ob:Obj) (Φ:Nat→Obj→Prop) (v:V) (W:Wd):Prop where
 free:ob.isFreed=false
 first:Φ 0 ob
 plain:yI c Φ
 draws:pX c it Φ v W
theorem ItOk.nf {c:Cx}{it:Addr}{ob:Obj}{Φ:Nat→Obj→Prop}{v:V}{W:Wd}(I:ItOk c it ob Φ v W)(k:Nat)(o:Obj)(h:Φ k o):frm o=false:=(I.plain k o h).elim λ_ t=>IZ t.cls t.nf
section
variable {A:Around}{W:Wd}{hp:List O}{s:Shared}{u:Value}{Q:Value→Shared→Prop}
theorem yJ {v:V}{xs:List V}(R:Rel c.P W hp s.heap)(hv:VR c.P W v u)(e:items v hp=some xs)(hi:∀ hp xs,cW v hp=some xs→items v hp=some xs)(h:∀ ob Φ,ItOk c s.heap.objs.size ob Φ v W→Q (.ref s.heap.objs.size) {s with heap:=s.heap.push ob}):c.wp A (pyIter u) Q s:=(by rcases aP R hv e with⟨a,us,n,I,d⟩;exact wpAny_pyIter_list ⟨_,I,rfl,n,rfl⟩ (h _ _ ⟨rfl,⟨rfl,rfl⟩,λ_ _ q=>⟨_,q.1,by decide+kernel,by decide+kernel,pY⟩,Af rfl hv hi⟩))
theorem nF {es:List (Nm×D)}{a:Addr}{en:List DictEntry}{n:Nat}(k0:(W0 c.K).le W)(f:W.fz a=some ⟨.type "dict",none,.dict en.toArray n,#[]⟩)(d:DRe c.P W.fz es en)(g:aO Bp (es.map (·.1))=false):(a==sysModules)=false:=by
 refine beq_eq_false_iff_ne.mpr λq=>?_
 subst q
 obtain⟨e,r,m,t,l,k⟩:=c.top.mods
 have f2:=(k0.fz _ _ l).symm.trans f
 cases f2
 cases es with
 |nil=>exact nomatch (d:(e::r:List DictEntry)=[])
 |cons p es=>
  obtain⟨x,y⟩:=p
  match(d:Two _ _ _)with
  |.mk (.mk _ t' _ k' _) _=>
   rw[k]at k'
   injection k' with k1 k2
   have:Bp=x:=mY k1
   subst this
   rw[sY (by exact List.mem_cons_self)]at g
   cases g
theorem vO (k0:(W0 c.K).le W)(R:Rel c.P W hp s.heap):∀ {v:V} {all:List V},VR c.P W v u→cW v hp=some all→pC v=true→(∀ ob Φ,ItOk c s.heap.objs.size ob Φ v W→Q (.ref s.heap.objs.size) {s with heap:=s.heap.push ob})→c.wp A (pyIter u) Q s:=by
 intro v all hv e g h
 cases v with
 |dat d=>cases d with
  |str x=>exact match u,(hv:IsS x u)with
   |_,.mk t=>by
    cases ha:(st x).cps.all (· < 128)with
    |true=>exact wpAny_pyIter_ascii ha (h _ _ ⟨rfl,⟨rfl,rfl⟩,λ_ _ q=>⟨_,q.1,by decide+kernel,by decide+kernel,vK⟩,sZ (.inl rfl)⟩)
    |false=>exact wpAny_pyIter_wide ha (h _ _ ⟨rfl,⟨rfl,rfl⟩,λ_ _ q=>⟨_,q.1,by decide+kernel,by decide+kernel,Ai⟩,sZ (.inr rfl)⟩)
  |tup ds=>exact match u,cM R hv (e:dK (.dat (.tup ds)) hp=some all),hv with
   |_,.mk a us n I d,hv=>wpAny_pyIter_tuple ⟨_,I,rfl,n,rfl⟩ (h _ _ ⟨rfl,⟨rfl,rfl⟩,λ_ _ q=>⟨_,q.1,by decide+kernel,by decide+kernel,vJ⟩,vH rfl hv λ_ _ e=>e⟩)
  |dct es=>exact match u,(hv:IsDct W.fz (DRe c.P W.fz es) u)with
   |_,.mk a en n f d=>by
    have g:=A0 g
    obtain⟨kvs,_,k2,hm⟩:=Cv R f d g.1
    exact wpAny_pyIter_dict (nF k0 f d ((Bool.not_eq_true' _).mp g.2)) hm (h _ _ ⟨rfl,⟨rfl,by rw[k2];rfl⟩,λ_ _ q=>⟨_,q.1,by decide+kernel,by decide+kernel,Ah⟩,Ag f d g.1⟩)
  |_=>exact yJ R hv e (λ_ _ e=>e) h
 |rng a b=>exact match u,(hv:IsR W.fz a b u)with
  |_,.mk p t t' t'' f=>by
   have g:=A0 g
   have gW:∀ {i:Int},eR i=true→ -4611686018427387904≤i∧i<4611686018427387904:=λ {i} g=>by
    cases i with
    |ofNat n=>have:n≤1048576:=A3 g;rw[Int.ofNat_eq_natCast];lia
    |negSucc n=>have:n≤1048576:=A3 g;rw[Int.negSucc_eq];lia
   have ga:=gW g.1
   have gb:=gW g.2
   refine wpAny_pyIter_range (R.fz _ _ f) (small_one ga.1 ga.2 gb.1 gb.2) (h _ _ ⟨rfl,?_,λ_ _ q=>⟨"range_iterator",by rw[q],by decide+kernel,by decide+kernel,vL⟩,vI⟩)
   rw[rangeSize_one,Int.natCast_zero,Int.add_zero,Int.sub_zero]
 |_=>exact yJ R hv e (λ_ _ e=>e) h
end
structure Away (W:Wd) (hp:List O) (h:Heap) (it:Addr) (Φ:Obj→Prop):Prop where
 ob:Got h it Φ
 nl:¬ Live W hp it
 nz:W.fz it=none
 nf:∀ o,Φ o→frm o=false
section
variable {W W' W1:Wd}{hp hp' hp1:List O}{h h' h1:Heap}{it:Addr}{Φ:Obj→Prop}
theorem Away.ext (x:Away W hp h it Φ)(E:Ext W hp h W' hp' h'):Away W' hp' h' it Φ:=by
 rcases x.ob with⟨o,g,r⟩
 exact have X:=E.at_ it o g
  ⟨.mk o ((X.keep x.nl).eq (x.nf o r)) r,λl=>x.nl (X.live l),match e:W'.fz it with
   |none=>rfl
   |some o'=>(X.cool o' e).elim (λf=>(jK f x.nz).elim) λl=>absurd l x.nl,x.nf⟩
theorem hH (E:Ext W hp h W' hp' h'){a:Addr}(n:h'.get? a=none):h.get? a=none:=match e:h.get? a with
 |none=>rfl
 |some o=>(by rcases(E.at_ a o e).ex with⟨_,e',_⟩;exact(jK e' n).elim)
theorem Fs.poke {A:Around}{it:Addr}{h h':Heap}{Φ:Obj→Prop}(g:Got h it Φ)(nf:∀ o,Φ o→frm o=false)(kp:eI it h h'):Fs A h→Fs A h'
 |.mk l e a=>.mk l e λenv m=>match a env m,g with
  |.mk L o k f g m,.mk ob g' r=>.mk L o k f (kp L o (λq=>Bool.noConfusion (m.symm.trans (kP (A9 ((q▸g').symm.trans g)▸nf ob r)))) g) m
theorem d4 (h:Heap):h.get? h.objs.size=none:=match e:h.get? h.objs.size with
 |none=>rfl
 |some o=>absurd (Heap.lt_size e) (Nat.lt_irrefl _)
theorem Rel.strange {P:Params}{ob:Obj}(R:Rel P W hp h):Rel P W hp (h.push ob)∧Ext W hp h W hp (h.push ob):=
 ⟨R.poke R.new_live R.new_cold λ_ _ _ e=>Heap.get?_push_of_some _ e,(Ext.refl W hp h).poke (d4 h) λ_ _ _ e=>Heap.get?_push_of_some _ e⟩
end
noncomputable def Fl.on:Fl→Bool
 |.next=>true
 |.cont=>true
 |_=>false
noncomputable def Fl.stp:Fl→Option Fl
 |.brk=>some .next
 |.ret v=>some (.ret v)
 |_=>none
inductive Gc (base:Nat) (hp:List O):List O→Prop
 |id:Gc base hp hp
 |fold {fz τ:List Nat} {v:V} {hp':List O} (e:g7 base fz τ (.dat .non) hp=some (v,hp')):Gc base hp hp'
inductive WhS (c:Cx) (sc:aH) (n:Nat) (F:Fx) (t:Expr) (body:List Stmt) (base:Nat) (R:List O→Fl→List O→Prop) (hp:List O):Fl→List O→Prop
 |stop {hp1:List O} (h1:RB c sc n F hp t false hp1):WhS c sc n F t body base R hp .next hp1
 |turn {hp1 hp2 hp3 hp4:List O} {fl fl':Fl} (h1:RB c sc n F hp t true hp1) (h2:RX c sc n F hp1 body fl hp2) (on:fl.on=true) (gc:Gc base hp2 hp3) (h3:R hp3 fl' hp4):WhS c sc n F t body base R hp fl' hp4
 |out {hp1 hp2:List O} {fl fl':Fl} (h1:RB c sc n F hp t true hp1) (h2:RX c sc n F hp1 body fl hp2) (out:fl.stp=some fl'):WhS c sc n F t body base R hp fl' hp2
noncomputable def mB (c:Cx)(sc:aH)(n:Nat)(F:Fx)(t:Expr)(body:List Stmt)(base:Nat)(m:Nat):List O→Fl→List O→Prop:=Nat.rec (λ_ _ _=>False) (λ_ R=>WhS c sc n F t body base R) m
inductive FoS (c:Cx) (sc:aH) (n:Nat) (F:Fx) (g:Expr) (body:List Stmt) (base:Nat) (v:V) (R:List O→Fl→List O→Prop) (k:Nat) (hp:List O):Fl→List O→Prop
 |stop {all:List V} (e:cW v hp=some all) (x:all[k]? =none):FoS c sc n F g body base v R k hp .next hp
 |turn {hp1 hp2 hp3 hp4:List O} {all:List V} {y:V} {fl fl':Fl} (e:cW v hp=some all) (x:all[k]? =some y) (h1:RG c sc n F hp g y hp1) (h2:RX c sc n F hp1 body fl hp2) (on:fl.on=true) (gc:Gc base hp2 hp3) (h3:R hp3 fl' hp4):FoS c sc n F g body base v R k hp fl' hp4
 |out {hp1 hp2:List O} {all:List V} {y:V} {fl fl':Fl} (e:cW v hp=some all) (x:all[k]? =some y) (h1:RG c sc n F hp g y hp1) (h2:RX c sc n F hp1 body fl hp2) (out:fl.stp=some fl'):FoS c sc n F g body base v R k hp fl' hp2
noncomputable def s9 (c:Cx)(sc:aH)(n:Nat)(F:Fx)(g:Expr)(body:List Stmt)(base:Nat)(v:V)(m:Nat):Nat→List O→Fl→List O→Prop:=Nat.rec (λ_ _ _ _=>False) (λ_ R k=>FoS c sc n F g body base v (R (k+1)) k) m
end
section
variable {c:Cx}{sc:aH}{n:Nat}{F:Fx}{A:Around}{W W1 W2:Wd}{hp hp1 hp2 hp3:List O}{s s1 s2:Shared}{env:Env}
inductive GcR (c:Cx) (n:Nat) (A:Around) (W:Wd) (hp:List O) (s:Shared) (W2:Wd) (hp2:List O) (hp3:List O) (s2:Shared):Prop
 |mk (W3:Wd) (z:At c n A W3 hp3 s2) (L:Lat W hp s W3 hp3 s2) (C:ZV W2 hp2 W3 hp3)
theorem yK (z:At c n A W hp s)(z2:At c n A W2 hp2 s2)(L:Lat W hp s W2 hp2 s2)(g:Gc hp.length hp2 hp3):GcR c n A W hp s W2 hp2 hp3 s2:=by
 cases g with
 |id=>exact .mk W2 z2 L λ_ n z=>⟨n,z⟩
 |fold e=>exact(by rcases jO (u:=.none) (v:=.dat .non) (z.rel.len.symm▸e:g7 W.n _ _ (.dat .non) hp2=_) (.mk W2 z2.rel L.e rfl λ_ n z=>⟨n,z⟩)with⟨W3,R,E,_,C⟩;exact .mk W3 ⟨z2.room,R,λa o e=>E.le.fz a o (z.kin a o e),z2.tk,z2.fs⟩ ⟨E,L.g,L.o⟩ C)
theorem Cy {P:Params}{fl:Fl}{f:Flow}(x:MA P W fl f)(h:fl.on=true):f=.next∨f=.cont:=by
 cases fl with
 |next=>exact .inl x
 |cont=>exact .inr x
 |_=>cases h
theorem Cz {P:Params}{fl fl':Fl}{f:Flow}(x:MA P W fl f)(h:fl.stp=some fl'):(f=.brk∧MA P W fl' .next)∨∃ v,f=.ret v∧MA P W fl' (.ret v):=by
 cases fl with
 |brk=>exact .inl ⟨x,A9 h▸rfl⟩
 |ret w=>exact .inr (x.elim λu q=>⟨u,q.1,A9 h ▸ ⟨u,rfl,q.2⟩⟩)
 |_=>cases h
inductive WhI (c:Cx) (sc:aH) (n:Nat) (F:Fx) (t:Expr) (body:List Stmt) (fl:Fl) (hp':List O) (A:Around) (W:Wd) (hp:List O) (s:Shared) (env:Env) (m:Nat) (s1:Shared):Prop
 |mk (W1:Wd) (hp1:List O) (z:AtF c sc n F hp1 A W1 s1 env) (l:Lat W hp s W1 hp1 s1) (h:mB c sc n F t body hp.length m hp1 fl hp'):WhI c sc n F t body fl hp' A W hp s env m s1
theorem i9 {t:Expr}{body:List Stmt}{p:Pos}{m:Nat}{fl:Fl}{hp':List O}(h:mB c sc n F t body hp.length m hp fl hp'):RS c sc n F hp (.While t body [] p) fl hp':=λA W s env z=>by
 refine wpAny_While (codeAny_whileLoop (WhI c sc n F t body fl hp' A W hp s env) ?_ m (.mk W hp z (.refl ..) h))
 rintro m s1 ⟨W1,hp1,z1,L1,h⟩
 cases m with
 |zero=>exact(h:False).elim
 |succ m=>
 cases(h:WhS ..)with
 |stop h1=>exact wpAny_mono (h1.go z1 (Z:=λb s2=>if b=true then _ else _) λW2 b s2 z2 L2 x2=>by
   rw[show b=false from x2]
   exact wpAny_execs_nil (.last (t:=s2.toks) z2.a (L1.trans L2) rfl)) (λ_ _ x=>x) λ_ _ f=>f.elim
 |turn h1 h2 on gc h3=>exact wpAny_mono (h1.go z1 (Z:=λb s2=>if b=true then _ else _) λW2 b s2 z2 L2 x2=>by
   rw[show b=true from x2]
   refine wpAny_mono (h2.go z2 λW3 f s3 z3 L3 x3=>?_) (λ_ _ x=>x) λ_ _ f=>f.elim
   match yK z.a z3.a ((L1.trans L2).trans L3) gc with
   |.mk W4 z4 L4 _=>
    rcases Cy x3 on with rfl|rfl
    ·exact⟨_,Nat.lt_succ_self _,.mk W4 _ (z.next L4 z4) L4 h3⟩
    ·exact⟨_,Nat.lt_succ_self _,.mk W4 _ (z.next L4 z4) L4 h3⟩) (λ_ _ x=>x) λ_ _ f=>f.elim
 |out h1 h2 out=>exact wpAny_mono (h1.go z1 (Z:=λb s2=>if b=true then _ else _) λW2 b s2 z2 L2 x2=>by
   rw[show b=true from x2]
   refine wpAny_mono (h2.go z2 λW3 f s3 z3 L3 x3=>?_) (λ_ _ x=>x) λ_ _ f=>f.elim
   have L:=(L1.trans L2).trans L3
   rcases Cz x3 out with⟨rfl,x⟩|⟨v,rfl,x⟩
   ·exact .last (t:=s3.toks) z3.a L x
   ·exact .last (t:=s3.toks) z3.a L x) (λ_ _ x=>x) λ_ _ f=>f.elim
theorem lY {it:Addr}{Φ Ψ:Obj→Prop}{h':Heap}{t:Nat}(z:AtF c sc n F hp1 A W1 s1 env)(L:Lat W hp s W1 hp1 s1)(nn:s.heap.get? it=none)(a:Away W1 hp1 s1.heap it Φ)(kp:eI it s1.heap h')(tk:s1.toks≤t):
  AtF c sc n F hp1 A W1 {s1 with heap:=h',toks:=t} env∧Lat W hp s W1 hp1 {s1 with heap:=h',toks:=t}∧((∀ o,Ψ o→frm o=false)→Got h' it Ψ→Away W1 hp1 h' it Ψ):=
 ⟨⟨⟨z.a.room,z.a.rel.poke a.nl a.nz kp,z.a.kin,A6 z.a.tk tk,z.a.fs.poke a.ob a.nf kp⟩,z.f,z.sc,z.top⟩,⟨L.e.poke nn kp,L.g,L.o⟩,λnf g=>⟨g,a.nl,a.nz,nf⟩⟩
section
variable {c:Cx}
theorem jW {A:Around}{s:Shared}{target:Expr}{it:Addr}{v:Value}{Φ:Nat→Obj→Prop}{k:Nat}{Q:Unit→Shared→Prop}(hp:yI c Φ)(h:Got s.heap it (Φ k))(q:Q () s):c.wp A (letOwnedTupleGo target (.ref it) v) Q s:=match h with
 |.mk o ho hΦ=>(hp k o hΦ).elim λT I=>by
  have go:wpAny c.M A (do
    let(.ref r,.ref a):=((.ref it,v):Value×Value)|return
    let o ← load r
    match o.cls,o.data with
    |.type n,.fields vs=>
     if Cw.contains n&&vs[0]? ==some (rawInt a)then
      rule "for.unpacks-the-owned-tuple"
      updateField r 0 .none
    |_,_=>pure ():Sem Unit) Q no s:=by
   cases v with
   |ref a=>
    refine wpAny_bind (wpAny_load ho ?_)
    rw[I.cls]
    cases hd:o.data with
    |fields vs=>
     simp only[I.own,Bool.false_and,Bool.false_eq_true,if_false]
     exact wpAny_pure q
    |_=>exact wpAny_pure q
   |_=>exact wpAny_pure q
  unfold letOwnedTupleGo
  cases target with
  |Tuple=>exact go
  |List=>exact go
  |_=>exact wpAny_pure q
end
structure FQ where
 c:Cx
 sc:aH
 n:Nat
 F:Fx
 g:Expr
 body:List Stmt
 v:V
 A:Around
 W:Wd
 hp:List O
 s:Shared
 env:Env
 it:Addr
 Φ:Nat→Obj→Prop
inductive FoI (q:FQ) (fl:Fl) (hp':List O) (m:Nat) (s2:Shared):Prop
 |mk (k:Nat) (W2:Wd) (hp2:List O) (z:AtF q.c q.sc q.n q.F hp2 q.A W2 s2 q.env) (l:Lat q.W q.hp q.s W2 hp2 s2) (aw:Away W2 hp2 s2.heap q.it (q.Φ k)) (h:s9 q.c q.sc q.n q.F q.g q.body q.hp.length q.v m k hp2 fl hp'):FoI q fl hp' m s2
structure FoB (q:FQ) (ob:Obj):Prop where
 I:ItOk q.c q.it ob q.Φ q.v q.W
 z:AtF q.c q.sc q.n q.F q.hp q.A q.W q.s q.env
 nn:q.s.heap.get? q.it=none
theorem tA {q:FQ}{k:Nat}{W2:Wd}{hp2 hp3 hp4:List O}{s2:Shared}{y:V}{u:Value}{fl:Fl}(z:AtF q.c q.sc q.n q.F hp2 q.A W2 s2 q.env)(l:Lat q.W q.hp q.s W2 hp2 s2)(aw:Away W2 hp2 s2.heap q.it (q.Φ k))(hu:VR q.c.P W2 y u)
  (g1:RG q.c q.sc q.n q.F hp2 q.g y hp3)(g2:RX q.c q.sc q.n q.F hp3 q.body fl hp4){Q:Flow→Shared→Prop}{E1 E2:Value→Shared→Prop}
  (h:∀ f W4 s4,AtF q.c q.sc q.n q.F hp4 q.A W4 s4 q.env→Lat q.W q.hp q.s W4 hp4 s4→Away W4 hp4 s4.heap q.it (q.Φ k)→MA q.c.P W4 fl f→Q f s4):wpAny q.c.M q.A (assign q.g q.env u) (λ_ s₂=>wpAny q.c.M q.A (execs q.body q.env) Q E2 s₂) E1 s2:=
 wpAny_mono (go z.a (g1 q.A W2 _ q.env u z hu) λ_ _ _ a3 L3 _=>wpAny_mono (g2.go (z.next L3 a3) λW4 f s4 z4 L4 x4=>h f W4 s4 z4 ((l.trans L3).trans L4) ((aw.ext L3.e).ext L4.e) x4) (λ_ _ x=>x) λ_ _ f=>f.elim) (λ_ _ x=>x) λ_ _ f=>f.elim
theorem DA {q:FQ}{ob:Obj}(B:FoB q ob){fl:Fl}{hp':List O}{m:Nat}{s':Shared}(h:FoI q fl hp' m s'){R:Result→Shared→Prop}(hR:∀ f W' s',At q.c q.n q.A W' hp' s'→Lat q.W q.hp q.s W' hp' s'→MA q.c.P W' fl f→R (.ok f) s'):
  codeAny q.c.M q.A (.forLoop q.g (.ref q.it) q.body [] q.env) R s':=by
 refine codeAny_forLoop_any (FoI q fl hp') ?_ m h
 rintro m s2 ⟨k,W2,hp2,z2,L2,aw,h⟩
 cases m with
 |zero=>exact(h:False).elim
 |succ m=>
 have draw:=λall e=>B.I.draws W2 hp2 s2 k all L2.le z2.a.rel aw.ob e
 refine wpAny_mono (wpAny_with_toks (E:=no) (A7 s2.toks) (wpAny_mono (E:=no) ?_ (λ_ _ q=>q) λ_ _ f=>f.elim)) (λ_ _ x=>x) λ_ _ f=>f.elim
 cases(h:FoS ..)with
 |stop e x=>
  refine(draw _ e).stop q.A _ z2.a.room.hd x ?_
  intro h' t' kp (tk:s2.toks≤t')
  have p:=lY (Ψ:=λ_=>True) z2 L2 B.nn aw kp tk
  exact wpAny_execs_nil (hR _ _ _ p.1.a p.2.1 rfl)
 |turn e x g1 g2 on gc g3=>
  refine(draw _ e).item _ q.A _ x ?_
  intro h' t' u' hu g kp (tk:s2.toks≤t')
  have p:=lY (Ψ:=q.Φ (k+1)) z2 L2 B.nn aw kp tk
  refine wpAny_mono (E:=no) (jW B.I.plain g ?_) (λ_ _ x=>x) λ_ _ f=>f.elim
  refine tA p.1 p.2.1 (p.2.2 (B.I.nf _) g) hu g1 g2 λf W4 s4 z4 L4 aw4 x4=>?_
  obtain⟨W5,z5,L5,C5⟩:=yK B.z.a z4.a L4 gc
  have c5:=C5 _ aw4.nl aw4.nz
  have I5:=FoI.mk (q:=q) (k+1) W5 _ (B.z.next L5 z5) L5 ⟨aw4.ob,c5.1,c5.2,aw4.nf⟩ g3
  rcases Cy x4 on with rfl|rfl
  ·exact⟨_,Nat.lt_succ_self _,I5⟩
  ·exact⟨_,Nat.lt_succ_self _,I5⟩
 |out e x g1 g2 out=>
  refine(draw _ e).item _ q.A _ x ?_
  intro h' t' u' hu g kp (tk:s2.toks≤t')
  have p:=lY (Ψ:=q.Φ (k+1)) z2 L2 B.nn aw kp tk
  refine wpAny_mono (E:=no) (jW B.I.plain g ?_) (λ_ _ x=>x) λ_ _ f=>f.elim
  refine tA p.1 p.2.1 (p.2.2 (B.I.nf _) g) hu g1 g2 λf W4 s4 z4 L4 aw4 x4=>?_
  rcases Cz x4 out with⟨rfl,x⟩|⟨v,rfl,x⟩
  ·exact hR _ _ _ z4.a L4 x
  ·exact hR _ _ _ z4.a L4 x
theorem kZ {i gt:Expr}{p:Pos}{body:List Stmt}{m:Nat}{v:V}{fl:Fl}{hp':List O}(hf:∀ env x,foldedSetIterable i env x=pure x)(h1:RE c sc n F hp i v hp1)(hr:pC v=true)(hi:(cW v hp1).isSome=true)
  (h:s9 c sc n F gt body hp1.length v m 0 hp1 fl hp'):RS c sc n F hp (.For gt i body [] p) fl hp':=λA W s env z=>by
 refine wpAny_For (h1.go z λW1 u s1 z1 L1 x1=>?_) (hf env)
 refine(Option.isSome_iff_exists.mp hi).elim λall e=>vO z1.a.le0 z1.a.rel x1 e hr λob Φ I=>?_
 have jI:=z1.a.rel.strange (ob:=ob)
 exact DA (q:=⟨c,sc,n,F,gt,body,v,A,W1,hp1,s1,env,s1.heap.objs.size,Φ⟩) ⟨I,z1,d4 s1.heap⟩
  (.mk 0 W1 hp1 (z1.next (.of (t:=s1.toks) jI.2) (z1.a.next (.of (t:=s1.toks) jI.2) jI.1 (A7 _))) (.of (t:=s1.toks) jI.2) ⟨.mk ob (Heap.get?_push_size _ I.free) I.first,z1.a.rel.new_live,z1.a.rel.new_cold,I.nf 0⟩ h)
  λf W' s' a L x=>.last (t:=s'.toks) a (L1.trans L) x
theorem yL {v:V}{all:List V}{it:Addr}{Φ:Nat→Obj→Prop}{ob:Obj}{W0:Wd}{s0:Shared}{hp0:List O}(I:ItOk c it ob Φ v W0)(le:W0.le W)(e:cW v hp=some all)(nn:s0.heap.get? it=none):∀ (xs:List V) (k:Nat) (s:Shared) {Q:List Value→Shared→Prop},all.drop k=xs→
  AtF c sc n F hp A W s env→Lat W0 hp0 s0 W hp s→Away W hp s.heap it (Φ k)→(∀ us s',AtF c sc n F hp A W s' env→Lat W0 hp0 s0 W hp s'→Away W hp s'.heap it (Φ (k+xs.length))→VRs c.P W xs us→Q us s')→c.wp A (draw (.ref it) xs.length) Q s
 | [],k,s,_,_,z,L,aw,h=>wpAny_pure (h [] s z L aw rfl)
 |x::xs,k,s,_,d,z,L,aw,h=>by
  have hk:all[k]? =some x:=by have:=congrArg (·[0]?) d;simpa using this
  have hd:all.drop (k+1)=xs:=by rw[← List.drop_drop,d];rfl
  show wpAny _ _ (pyNext (.ref it) >>= _) _ _ s
  refine bK (wpAny_with_toks (n:=s.toks) (A7 _) (wpAny_mono (E:=no) ((I.draws W hp s k all le z.a.rel aw.ob e).item x A _ hk λh' t' u hu g kp (tk:s.toks≤t')=>?_) (λ_ _ q=>q) λ_ _ f=>f.elim))
  have p:=lY (Ψ:=Φ (k+1)) z L nn aw kp tk
  refine bK (wpAny_holding (yL I le e nn xs (k+1) _ hd p.1 p.2.1 (p.2.2 (I.nf _) g) λus s' z' L' aw' r=>wpAny_pure (h _ s' z' L' ?_ (.mk hu r))))
  rw[show k+(x::xs).length=k+1+xs.length by rw[B3];lia]
  exact aw'
theorem tB {v:V}{vs:List V}(e:items v hp=some vs):cW v hp=some vs∧pC v=true:=by
 cases v with
 |dat d=>cases d with
  |lst=>exact⟨e,rfl⟩
  |_=>cases e
 |ref=>exact⟨e,rfl⟩
 |_=>cases e
theorem OO {rs:List Expr}{k:Nat}{p:Pos}{v:V}{vs:List V}(hn:rs.all cB=true)(hl:Nat.beq vs.length rs.length=true)(e:items v hp=some vs)(h:Rv c sc n F hp rs vs hp1):RG c sc n F hp (.Tuple rs k p) v hp1:=λA W s env u z hv=>by
 have e':=(tB e).1
 have hr:=(tB e).2
 have el:=dB env hn
 rw[arm_assign_Tuple]
 refine wpAny_bind (wpAny_standAt ?_)
 unfold unpack
 rw[el,List.length_map,show List.findIdx? (·.1) (rs.map λr=>(false,assign r env))=none from(List.findIdx?_map ..).trans (List.findIdx?_eq_none_iff.mpr λ_ _=>rfl),← B0 hl]
 refine wpAny_bind (wpAny_holding ?_)
 unfold unpackItems notIterableAtAll
 have tl:s.TypeIs u "list" :=match u,aP z.a.rel hv e with
  |_,.mk a us m I d=>⟨_,I,rfl⟩
 refine wpAny_bind (wpAny_bind (wpAny_specialOf tl slot_list_iter.lookup (wpAny_pure ?_)))
 simp only[Bool.false_eq_true,if_false]
 refine wpAny_bind (wpAny_holding (vO z.a.le0 z.a.rel hv e' hr λob Φ I=>?_))
 have jI:=z.a.rel.strange (ob:=ob)
 have L0:Lat W hp s W hp {s with heap:=s.heap.push ob}:=.of (t:=s.toks) jI.2
 refine wpAny_bind (wpAny_holding (yL I (.refl W) e' (d4 s.heap) vs 0 _ rfl (z.next L0 (z.a.next L0 jI.1 (A7 _))) L0 ⟨.mk ob (Heap.get?_push_size _ I.free) I.first,z.a.rel.new_live,z.a.rel.new_cold,I.nf 0⟩ λus s' z' L' aw' r=>?_))
 rw[if_neg (by rw[R2.len r];exact Nat.lt_irrefl _)]
 refine wpAny_bind (wpAny_holding (wpAny_with_toks (n:=s'.toks) (A7 _) (wpAny_mono (E:=no) ((I.draws W hp s' _ vs (.refl W) z'.a.rel aw'.ob e').stop A _ z'.a.room.hd (by rw[Nat.zero_add];exact List.getElem?_eq_none (A7 _)) λh' t' kp (tk:s'.toks≤t')=>?_) (λ_ _ q=>q) λ_ _ f=>f.elim)))
 have p:=lY (Ψ:=λ_=>True) z' L' (d4 s.heap) aw' kp tk
 simp only[Option.isSome_none,Bool.false_eq_true,if_false,List.map_map]
 exact wpAny_pure (h9 p.2.1 (h A W _ env us p.1 r))
end
end
section
noncomputable def k5:NameKind→Bool
 |.free=>true
 |_=>false
theorem Aj:∀ k:NameKind,(k==.free)=k5 k:=by intro k;cases k <;>rfl
noncomputable def lZ (cells:List (Str×Addr)):aH→List (Str×Addr)→Option (List (Str×Addr))
 | [],acc=>some acc
 |p::r,acc=>match k5 p.2 with
  |true=>(cells.lookup p.1).bind λa=>lZ cells r ((p.1,a)::acc)
  |false=>lZ cells r acc
theorem rA {env:Env}(f:Str×NameKind→List (Str×Addr)→Sem (ForInStep (List (Str×Addr))))(hf:∀ p acc,f p acc=if p.2==.free then(do let a ← cellOf env p.1;pure (.yield ((p.1,a)::acc)))else pure (.yield acc)):
  ∀ {names:aH} {acc cl:List (Str×Addr)},lZ env.cells names acc=some cl→forIn names acc f=pure cl
 | [],_,_,h=>by cases h;rfl
 |p::r,acc,cl,h=>by
  have h:(bif k5 p.2 then(env.cells.lookup p.1).bind (λa=>lZ env.cells r ((p.1,a)::acc))else lZ env.cells r acc)=some cl:=h
  rw[List.forIn_cons,hf,Aj]
  cases hk:k5 p.2 with
  |true=>
   rw[hk]at h
   obtain⟨a,e,h⟩:=aK h
   have:cellOf env p.1=pure a:=by unfold cellOf;rw[e]
   rw[if_pos rfl,this]
   exact rA f hf h
  |false=>rw[hk]at h;exact rA f hf h
theorem vP {scope:Scope}{env:Env}{cl:List (Str×Addr)}(h:lZ env.cells scope.names []=some cl):closureFor scope env=pure cl:=by
 simp only[closureFor]
 rw[rA (env:=env) _ (λp acc=>by cases hk:p.2==NameKind.free <;>simp[hk]) h]
 simp
noncomputable def cC:aH→List Nm
 | []=>[]
 |p::r=>match k5 p.2 with
  |true=>p.1.cps.toList::cC r
  |false=>cC r
noncomputable def eC (cs:List (Nm×Nat)):List Nm→List (Nm×Nat)
 | []=>[]
 |x::r=>match lk cs x with
  |some l=>(x,l)::eC cs r
  |none=>eC cs r
theorem vQ {cs:List (Nm×Nat)}{x:Nm}{l:Nat}:∀ {caps:List Nm},lk (eC cs caps) x=some l→x∈caps∧lk cs x=some l
 | [],h=>nomatch h
 |y::r,h=>by
  have h:lk (match lk cs y with|some l=>(y,l)::eC cs r|none=>eC cs r) x=some l:=h
  cases e:lk cs y with
  |some l'=>rw[e]at h;exact(qX h).elim (λq=>⟨q.1 ▸ .head _,q.1▸q.2▸e⟩) λq=>(vQ q.2).imp (.tail _) id
  |none=>rw[e]at h;exact(vQ h).imp (.tail _) id
theorem nG {W:Wd}{cs:List (Nm×Nat)}{cells:List (Str×Addr)}(C:CelR W cs cells):∀ {names:aH} (acc:List (Str×Addr)),(cC names).all (λx=>(lk cs x).isSome)=true→
  (∀ x l,lk cs x=some l→(acc.lookup (st x)).isSome=true→acc.lookup (st x)=cells.lookup (st x))→
  ∃ cl,lZ cells names acc=some cl∧(∀ x,(acc.lookup (st x)).isSome=true∨x∈cC names→(cl.lookup (st x)).isSome=true)∧∀ x l,lk cs x=some l→(cl.lookup (st x)).isSome=true→cl.lookup (st x)=cells.lookup (st x)
 | [],acc,_,h2=>⟨acc,rfl,λx h=>h.elim id λm=>absurd m List.not_mem_nil,h2⟩
 |(y,k)::r,acc,h1,h2=>by
  unfold cC at h1 ⊢
  unfold lZ
  dsimp only at h1 ⊢
  cases hk:k5 k with
  |false=>rw[hk]at h1;exact nG C acc h1 h2
  |true=>
   rw[hk]at h1
   have h1:=A0 h1
   obtain⟨l,hl⟩:=Option.isSome_iff_exists.mp h1.1
   have hc:=(C _ l hl).2
   rw[aI]at hc
   obtain⟨cl,c1,c2,c3⟩:=nG C ((y,W.ρ l)::acc) h1.2 λx l' hx hs=>by
    rw[List.lookup_cons]at hs ⊢
    cases q:st x==y with
    |true=>rw[eq_of_beq q,hc]
    |false=>rw[q]at hs;exact h2 x l' hx hs
   refine⟨cl,by rw[hc];exact c1,λx h=>c2 x ?_,c3⟩
   rcases h with h|h
   ·refine .inl ?_
    rw[List.lookup_cons]
    cases st x==y with
    |true=>rfl
    |false=>exact h
   ·exact(List.mem_cons.mp h).elim (λe=>.inl (by rw[e,aI,List.lookup_cons,beq_self_eq_true];rfl)) .inr
noncomputable def mC (sc:aH)(names:aH):aH:=names.map λ(n,k)=>if(k==.free&&true&&sc.lookup n==some .cell)then(n,.cell)else(n,k)
theorem pE {scope:Scope}{env:Env}{sc:aH}(hk:env.scope.kind=.function)(hsc:env.scope.names=sc):(relabel scope env).names=mC sc scope.names:=by
 unfold relabel mC Env.kindOf
 rw[hk,hsc]
 rfl
section
variable {c:Cx}
inductive TsR (c:Cx) (sc:aH) (n:Nat) (F:Fx) (hp:List O):List Expr→Bool→List O→Prop
 |nil:TsR c sc n F hp [] true hp
 |one {t:Expr} {b:Bool} {hp':List O} (h:RB c sc n F hp t b hp'):TsR c sc n F hp [t] b hp'
theorem TsR.go {sc:aH}{n:Nat}{F:Fx}{hp hp1:List O}{ts:List Expr}{b:Bool}{A:Around}{W:Wd}{s:Shared}{env:Env}(h:TsR c sc n F hp ts b hp1)(z:AtF c sc n F hp A W s env){Z:Bool→Shared→Prop}
  (k:∀ W1 s1,AtF c sc n F hp1 A W1 s1 env→Lat W hp s W1 hp1 s1→Z b s1):c.wp A (forIn ts true λc r=>if r=true then do let ok ← PySem.isTrue c env (eval c env);pure (ForInStep.yield ok)else pure (ForInStep.yield r)) Z s:=by
 cases h with
 |nil=>exact wpAny_tests_nil (k W s z (.refl ..))
 |one h=>exact wpAny_tests_one (h.go z λW1 a s1 z1 L1 x=>(show a=b from x)▸k W1 s1 z1 L1)
inductive CoS (c:Cx) (sc:aH) (n:Nat) (F:Fx) (g:Expr) (ts:List Expr) (e:Expr) (L:Nat) (v:V) (R:List O→List O→Prop) (k:Nat) (hp:List O):List O→Prop
 |stop {all:List V} (i:cW v hp=some all) (x:all[k]? =none):CoS c sc n F g ts e L v R k hp hp
 |turn {hp1 hp1' hp2 hp3:List O} {all xs:List V} {y w:V} (i:cW v hp=some all) (x:all[k]? =some y) (h1:RG c sc n F hp g y hp1) (ht:TsR c sc n F hp1 ts true hp1') (h2:RE c sc n F hp1' e w hp2) (el:hp2[L]?.bind O.lstE=some xs) (z:Nat.ble xs.length lim=true)
   (h3:R (hp2.set L (.lst (xs++[w]))) hp3):CoS c sc n F g ts e L v R k hp hp3
 |skip {hp1 hp2 hp3:List O} {all:List V} {y:V} (i:cW v hp=some all) (x:all[k]? =some y) (h1:RG c sc n F hp g y hp1) (ht:TsR c sc n F hp1 ts false hp2) (h3:R hp2 hp3):CoS c sc n F g ts e L v R k hp hp3
noncomputable def vR (c:Cx)(sc:aH)(n:Nat)(F:Fx)(g:Expr)(ts:List Expr)(e:Expr)(L:Nat)(v:V)(m:Nat):Nat→List O→List O→Prop:=Nat.rec (λ_ _ _=>False) (λ_ R k=>CoS c sc n F g ts e L v (R (k+1)) k) m
structure ComOk (scope:Scope) (ri:Expr) (cs:List (Nm×Nat)):Prop where
 kind:scope.kind=.function
 cell:cS scope.names=[]
 caps:(cC scope.names).all (λx=>(lk cs x).isSome)=true
 names:∀ x∈scope.names,x.2=.local→scope.names.lookup x.1=some .local
 fold:∀ env x,foldedSetIterable ri env x=pure x
structure ComE (c:Cx) (n:Nat) (A:Around) (W:Wd) (hp:List O) (s:Shared) (L:Nat) (W':Wd) (hp':List O) (s':Shared) (dD dC:Addr):Prop where
 a:At c n A W' hp' s'
 l:Lat W hp s W' hp' s'
 ltL:L+1<W'.n
 aC:W'.ρ (L+1)=dC
 aD:W'.ρ L=dD
 nC:s.heap.get? dC=none
variable {sc:aH}{n:Nat}{F:Fx}{A:Around}{W:Wd}{hp hp1 hp2:List O}{s:Shared}{env:Env}{re ri rt:Expr}{ts:List Expr}{scope:Scope}{pos:Pos}{v:V}{m:Nat}
theorem Ia {W7:Wd}{hp4:List O}{s7:Shared}{xs:List V}{w:V}{yu:Value}{L:Nat}{dD:Addr}{Q:Value→Shared→Prop}(z7:AtF c sc n F hp4 A W7 s7 env)(el:hp4[L]?.bind O.lstE=some xs)(zz:Nat.ble xs.length lim=true)(x7:VR c.P W7 w yu)(hd:W7.ρ L=dD)
  (h:∀ u W8 s8,AtF c sc n F (hp4.set L (.lst (xs++[w]))) A W8 s8 env→Lat W7 hp4 s7 W8 (hp4.set L (.lst (xs++[w]))) s8→Q u s8):c.wp A (call (.builtin "list.append") [.ref dD,yu]) Q s7:=by
 subst hd
 match z7.a.rel.lst (dY el)with
 |.mk us kk gd d=>
  refine call_meets PySem.F.slot_list_append ⟨_,gd,rfl⟩ PySem.F.entry_list_append (PySem.F.args_list_append_2 _ _) (list_append _ us.toArray kk yu (by rw[List.size_toArray,R2.len d];exact bC zz)) ⟨gd,?_⟩
  exact(by rcases(f7 (RR:=qT) (b:=()) (r:=()) z7.a (dY el) gd (R2.app d (R2.one x7)) (List.push_toArray ..) trivial:Post c qT W7 _ s7 () _ () {s7 with heap:=s7.heap.update (W7.ρ L) (Obj.mapSeq λx=>x.push yu),toks:=s7.toks})with⟨W8,R8,L8,_⟩;exact h _ W8 _ ⟨z7.a.next L8 R8 (A7 _),z7.f.mono L8.le,z7.sc,z7.top⟩ L8)
structure CQ where
 c:Cx
 sc:aH
 n:Nat
 F:Fx
 rt:Expr
 ts:List Expr
 re:Expr
 L:Nat
 v:V
 hp2:List O
 A:Around
 W:Wd
 hp:List O
 s:Shared
 W1:Wd
 W4:Wd
 cE:Env
 it:Addr
 dD:Addr
 Φ:Nat→Obj→Prop
inductive CoI (q:CQ) (m:Nat) (s':Shared):Prop
 |mk (k:Nat) (W':Wd) (hp':List O) (z:AtF q.c q.sc q.n q.F hp' q.A W' s' q.cE) (l:Lat q.W q.hp q.s W' hp' s') (le:q.W4.le W') (aw:Away W' hp' s'.heap q.it (q.Φ k)) (h:vR q.c q.sc q.n q.F q.rt q.ts q.re q.L q.v m k hp' q.hp2):CoI q m s'
structure CoB (q:CQ) (ob:Obj):Prop where
 I:ItOk q.c q.it ob q.Φ q.v q.W1
 le:q.W1.le q.W4
 nb:q.s.heap.get? q.it=none
 lD:∀ {W'},q.W4.le W'→W'.ρ q.L=q.dD
theorem DB {q:CQ}{ob:Obj}(B:CoB q ob){m:Nat}{s':Shared}(h:CoI q m s'){Q:Fin→Shared→Prop}(hstop:∀ W' s',At q.c q.n q.A W' q.hp2 s'→Lat q.W q.hp q.s W' q.hp2 s'→q.W4.le W'→Q (.done .next) s')
  (hturn:∀ m' s',m'<m→CoI q m' s'→Q (.again (.compLoop (.ListComp q.re [⟨q.rt,ri,q.ts,0⟩] scope pos) 0 (.ref q.it) (.ref q.dD) q.cE)) s'):q.c.wp q.A (compTurn (.ListComp q.re [⟨q.rt,ri,q.ts,0⟩] scope pos) 0 (.ref q.it) (.ref q.dD) q.cE) Q s':=by
 obtain⟨k,W',hp',Z',L',le,aw,h⟩:=h
 cases m with
 |zero=>exact(h:False).elim
 |succ m=>
 rw[compTurn_list]
 refine wpAny_bind (wpAny_standAt (wpAny_bind (wpAny_with_toks (n:=s'.toks) (A7 _) (wpAny_mono (E:=no) ?_ (λ_ _ x=>x) λ_ _ f=>f.elim))))
 have draw:=λall e=>B.I.draws W' hp' s' k all (B.le.trans le) Z'.a.rel aw.ob e
 cases(h:CoS ..)with
 |stop i x=>
  refine(draw _ i).stop q.A _ Z'.a.room.hd x ?_
  intro h' t' kp (tk:s'.toks≤t')
  have z:=lY (Ψ:=λ_=>True) Z' L' B.nb aw kp tk
  exact wpAny_pure (hstop W' {s' with heap:=h',toks:=t'} z.1.a z.2.1 le)
 |turn i x g1 gt g2 el zz g3=>
  refine(draw _ i).item _ q.A _ x ?_
  intro h' t' u' hu g kp (tk:s'.toks≤t')
  have z:=lY (Ψ:=q.Φ (k+1)) Z' L' B.nb aw kp tk
  refine wpAny_bind (jW B.I.plain g (wpAny_bind (go z.1.a (g1 q.A W' _ q.cE u' z.1 hu) λW5 _ s6 a6 L6 _=>?_)))
  dsimp only
  refine wpAny_bind (gt.go (z.1.next L6 a6) λWt st zt Lt=>?_)
  rw[if_pos rfl]
  refine wpAny_bind (wpAny_bind (g2.go zt λW7 yu s7 z7 L7 x7=>?_))
  have L67:=Lt.trans L7
  exact wpAny_bind (Ia z7 el zz x7 (B.lD ((le.trans L6.le).trans L67.le)) λ_ W8 s8 z8 L8=>wpAny_pure (wpAny_pure (hturn _ s8 (Nat.lt_succ_self _) (.mk (k+1) W8 _ z8 (((z.2.1.trans L6).trans L67).trans L8) ((le.trans L6.le).trans (L67.le.trans L8.le)) ((((z.2.2 (B.I.nf _) g).ext L6.e).ext L67.e).ext L8.e) g3))))
 |skip i x g1 gt g3=>
  refine(draw _ i).item _ q.A _ x ?_
  intro h' t' u' hu g kp (tk:s'.toks≤t')
  have z:=lY (Ψ:=q.Φ (k+1)) Z' L' B.nb aw kp tk
  refine wpAny_bind (jW B.I.plain g (wpAny_bind (go z.1.a (g1 q.A W' _ q.cE u' z.1 hu) λW5 _ s6 a6 L6 _=>?_)))
  dsimp only
  refine wpAny_bind (gt.go (z.1.next L6 a6) λWt st zt Lt=>?_)
  rw[if_neg A8]
  exact wpAny_pure ((hturn _ st (Nat.lt_succ_self _) (.mk (k+1) Wt _ zt ((z.2.1.trans L6).trans Lt) ((le.trans L6.le).trans Lt.le) (((z.2.2 (B.I.nf _) g).ext L6.e).ext Lt.e) g3)))
theorem DC {q:CQ}{ob:Obj}(B:CoB q ob){m:Nat}{s':Shared}(h:CoI q m s'){R:Result→Shared→Prop}(hR:∀ W' s',At q.c q.n q.A W' q.hp2 s'→Lat q.W q.hp q.s W' q.hp2 s'→q.W4.le W'→R (.ok .next) s'):
  codeAny q.c.M q.A (.compLoop (.ListComp q.re [⟨q.rt,ri,q.ts,0⟩] scope pos) 0 (.ref q.it) (.ref q.dD) q.cE) R s':=by
 refine codeAny_loop rfl (CoI q) ?_ m h
 intro m s' h
 show wpAny _ q.A ((compTurn (.ListComp q.re [⟨q.rt,ri,q.ts,0⟩] scope pos) 0 (.ref q.it) (.ref q.dD) q.cE).onRaise (λx=>do noteFrame x q.cE;theTreesLotGoes x)) _ _ s'
 exact wpAny_noted (wpAny_mono (E:=no) (DB B h hR λm' s' lt h=>⟨rfl,m',lt,h⟩) (λ_ _ x=>x) λ_ _ f=>f.elim)
theorem yM {use:Option (Value→Sem Unit)}{QQ:Value→Shared→Prop}(ok:ComOk scope ri F.cs)(z:AtF c sc n F hp A W s env)(h1:RE c sc n F hp ri v hp1)(hr:pC v=true)(hi:(cW v hp1).isSome=true)
  (h:vR c (mC sc scope.names) n ⟨hp1.length+1,eC F.cs (cC scope.names),false⟩ rt ts re hp1.length v m 0 (hp1++[.lst [],.fr []]) hp2)
  (h9:∀ W' s' dD dC,ComE c n A W hp s hp1.length W' hp2 s' dD dC→compPost c.M A no use QQ (.ref dD) dC (.ok .next) s'):
  c.wp A (comprehension (.ListComp re [⟨rt,ri,ts,0⟩] scope pos) scope env (firstIterPos [⟨rt,ri,ts,0⟩] pos) (newList []) false (eval ri env) use) QQ s:=by
 obtain⟨cl,c1,c2,c3⟩:=nG (W:=W) z.f.cel (names:=scope.names) [] ok.caps λx l _ q=>nomatch q
 refine wpAny_comprehension_free (use:=use) (g:=⟨rt,ri,ts,0⟩) (gs:=[]) rfl (ok.fold env) (vP c1) ok.kind ok.names (h1.go z λW1 u s1 z1 L1 x1=>?_)
 refine(Option.isSome_iff_exists.mp hi).elim λall e=>vO z1.a.le0 z1.a.rel x1 e hr λob Φ I=>?_
 have nn:=d4 s1.heap
 have jI:=z1.a.rel.strange (ob:=ob)
 have nb:=hH L1.e nn
 refine wpAny_newObj_type ?_ (Nat.zero_le _)
 have z2:=jI.1.alloc (o:=.lst []) (ob:={cls:=.type "list",data:=.seq ([]:List Value).toArray}) (.mk [] 0 rfl)
 have z3:=z2.1.alloc (o:=.fr []) (ob:={cls:=.type "dict",data:=.dict #[]}) (.mk "dict" [] 0 rfl)
 rw[B2]at z3
 have z3:Rel c.P _ (hp1++[.lst [],.fr []]) _∧Ext _ _ _ _ (hp1++[.lst [],.fr []]) _:=z3
 have E3:=(jI.2.trans z2.2).trans z3.2
 have ltL:hp1.length < (W1.push (s1.heap.push ob).objs.size).n:=z1.a.rel.len▸Nat.lt_succ_self _
 have Lr:(W1.push (s1.heap.push ob).objs.size).ρ hp1.length=(s1.heap.push ob).objs.size:=jI.1.push_at _
 generalize hD:(s1.heap.push ob).objs.size=dD at *
 generalize hh3:(s1.heap.push ob).push {cls:=.type "list",data:=.seq ([]:List Value).toArray}=h3 at *
 generalize hC:h3.objs.size=dC at *
 have Lc:((W1.push dD).push dC).ρ (hp1.length+1)=dC:=by
  have:=z2.1.push_at dC
  rwa [A2]at this
 have Ll:((W1.push dD).push dC).ρ hp1.length=dD:=((Wd.le_push _ _).ρ _ ltL).trans Lr
 have ltC:hp1.length+1 < ((W1.push dD).push dC).n:=Nat.succ_lt_succ ltL
 generalize (W1.push dD).push dC=W3 at *
 simp only[newFunctionEnv,Option.isSome_some,if_true]
 refine bK (wpAny_alloc ?_)
 have CC:CelR W3 (eC F.cs (cC scope.names)) cl:=λx l q=>have q:=vQ q;have q2:=z.f.cel x l q.2
  ⟨A6 q2.1 (L1.le.trans E3.le).n,(c3 x l q.2 (c2 x (.inr q.1))).trans (q2.2.trans (congrArg some ((L1.le.trans E3.le).ρ _ q2.1).symm))⟩
 refine bK (wpAny_with_toks (n:=s1.toks) (A7 _) (wpAny_mono (E:=no) (jN (c:=c) (A:=A) _ (λname kind cells=>by cases hkc:kind==NameKind.cell <;>simp[hkc]) scope.names cl (eC F.cs (cC scope.names)) (hp1++[.lst [],.fr []]) W3 _ z3.1 CC
  λW4 ca s5 R4 L4 C4 tk=>?_) (λ_ _ x=>x) λ_ _ f=>f.elim))
 rw[ok.cell]at R4 L4 C4
 have R4:Rel c.P W4 (hp1++[.lst [],.fr []]) s5.heap:=R4
 have L4:Lat W3 (hp1++[.lst [],.fr []]) _ W4 (hp1++[.lst [],.fr []]) s5:=L4
 have C4:CelR W4 (eC F.cs (cC scope.names)) ca:=C4
 refine wpAny_pure ?_
 have F4:FrR W4 ⟨hp1.length+1,eC F.cs (cC scope.names),false⟩ {scope:=relabel scope env,locals:=h3.objs.size,globals:=env.globals,cells:=ca,qual:=env.qual,func:=none,code:=env.code,frame:=env.frame,builtins:=env.builtins}:=
  ⟨A6 ltC L4.le.n,hC.trans (Lc.symm.trans (L4.le.ρ _ ltC).symm),C4,ok.kind,z.f.glob,z.f.blt⟩
 generalize hcE:({scope:=relabel scope env,locals:=h3.objs.size,globals:=env.globals,cells:=ca,qual:=env.qual,func:=none,code:=env.code,frame:=env.frame,builtins:=env.builtins}:Env)=cE at F4
 have N4:cE.scope.names=mC sc scope.names:=by rw[← hcE];exact pE z.f.kind z.sc
 have L5:Lat W hp s W4 (hp1++[.lst [],.fr []]) s5:=(L1.trans (.of (t:=s1.toks) E3)).trans L4
 have L15:Lat W1 hp1 s1 W4 (hp1++[.lst [],.fr []]) s5:=(Lat.of (t:=s1.toks) E3).trans L4
 have Z5:AtF c (mC sc scope.names) n ⟨hp1.length+1,eC F.cs (cC scope.names),false⟩ (hp1++[.lst [],.fr []]) A W4 s5 cE:=⟨z1.a.next L15 R4 tk,F4,N4,λq=>Bool.noConfusion q⟩
 have aw5:Away W4 (hp1++[.lst [],.fr []]) s5.heap s1.heap.objs.size (Φ 0):=
  Away.ext (h:=s1.heap.push ob) ⟨.mk ob (Heap.get?_push_size _ I.free) I.first,z1.a.rel.new_live,z1.a.rel.new_cold,I.nf 0⟩ ((z2.2.trans z3.2).trans L4.e)
 have nC:s.heap.get? dC=none:=hC▸hH ((L1.e.trans jI.2).trans z2.2) (d4 h3)
 have lD:∀ {W':Wd},W4.le W'→W'.ρ hp1.length=dD:=λle=>(le.ρ _ (A6 (Nat.lt_of_succ_lt ltC) L4.le.n)).trans ((L4.le.ρ _ (Nat.lt_of_succ_lt ltC)).trans Ll)
 have loop:codeAny c.M A (.compLoop (.ListComp re [⟨rt,ri,ts,0⟩] scope pos) 0 (.ref s1.heap.objs.size) (.ref dD) cE) (compPost c.M A no use QQ (.ref dD) dC) s5:=
  DC (q:=⟨c,mC sc scope.names,n,⟨hp1.length+1,eC F.cs (cC scope.names),false⟩,rt,ts,re,hp1.length,v,hp2,A,W,hp,s,W1,W4,cE,s1.heap.objs.size,dD,Φ⟩) ⟨I,L15.le,nb,lD⟩ (.mk 0 W4 _ Z5 L5 (.refl _) aw5 h)
   λW' s' a l le=>h9 W' s' dD dC ⟨a,l,A6 ltC (L4.le.trans le).n,(le.ρ _ (A6 ltC L4.le.n)).trans ((L4.le.ρ _ ltC).trans Lc),lD le,nC⟩
 show codeAny c.M A (.compStart (.ListComp re [⟨rt,ri,ts,0⟩] scope pos) 0 (.ref s1.heap.objs.size) (.ref dD) cE) (compPost c.M A no use QQ (.ref dD) h3.objs.size) s5
 rw[hC]
 exact(by rcases aw5.ob with⟨o,ho,hΦ⟩;exact(I.plain 0 o hΦ).elim λT P=>codeAny_compStart_list loop (wpAny_mono (P.self A s5 _ _ ⟨_,ho,P.cls⟩ loop) (λ_ _ x=>x) λ_ _ f=>f.elim))
theorem DD {L:Nat}{W':Wd}{hp':List O}{s':Shared}{dC:Addr}{es:List (Nm×V)}{h'':Heap}(z:At c n A W' hp' s')(l:Lat W hp s W' hp' s')(lv:Lv hp' L (.fr es))(aC:W'.ρ L=dC)(nC:s.heap.get? dC=none)(sb:Heap.SameBut dC s'.heap h''):
  Rel c.P W' (hp'.set L .gone) h''∧Lat W hp s W' (hp'.set L .gone) {s' with heap:=h''}:=
 have q:=z.rel.forget L
 have nl:¬ Live W' (hp'.set L .gone) dC:=λ|.mk k o v e=>match v.set with
  |.inl ⟨_,e'⟩=>nomatch (e'▸v.v:O.live .gone=true)
  |.inr ⟨ne,y⟩=>ne (z.rel.inj _ _ _ _ y lv (e.trans aC.symm))
 ⟨q.1.poke nl (aC▸z.rel.cold _ _ lv) (b6 sb),⟨(l.e.trans q.2).poke nC (b6 sb),l.g,l.o⟩⟩
theorem MI {L:Nat}{W':Wd}{hp':List O}{h':Heap}{es:List (Nm×V)}(R:Rel c.P W' hp' h')(lv:Lv hp' L (.fr es)):∃ m,h'.Ns (W'.ρ L) m:=(by rcases R.fr lv with⟨_,en,k,g,E⟩;exact⟨λy=>nsFind en.toArray y,_,en.toArray,k,g,rfl,E.skeys,λ_=>rfl⟩)
theorem yN {es:List (Nm×V)}(ok:ComOk scope ri F.cs)(h1:RE c sc n F hp ri v hp1)(hr:pC v=true)(hi:(cW v hp1).isSome=true)
  (h:vR c (mC sc scope.names) n ⟨hp1.length+1,eC F.cs (cC scope.names),false⟩ rt ts re hp1.length v m 0 (hp1++[.lst [],.fr []]) hp2)(e:hp2[hp1.length+1]?.bind O.frE=some es):
  RE c sc n F hp (.ListComp re [⟨rt,ri,ts,0⟩] scope pos) (.ref hp1.length) (hp2.set (hp1.length+1) .gone):=λA W s env z=>by
 show wpAny _ _ (eval _ env) _ _ _
 rw[eval_ListComp]
 exact yM ok z h1 hr hi h λW' s' dD dC E=>(MI E.a.rel (m4 e)).elim λm hm=>⟨m,E.aC▸hm,λh'' sb=>have q:=DD E.a E.l (m4 e) E.aC E.nC sb
  .mk W' q.1 q.2 ⟨Nat.lt_of_succ_lt E.ltL,congrArg Value.ref E.aD.symm⟩⟩
noncomputable def jX (sc:aH)(y:Str)(px:Pos)(r:Expr):Bool:=if h:r.ctorIdx=8 then Expr.ListComp.elim (motive_1:=λ_=>Bool) r h λ_ _ scope p=>sc.lookup y==some .local&&px.line==p.line&& !(scope.names.any λ(n,k)=>n==y&&(k==.local||k==.cell))else false
theorem vS {y:Str}{px:Pos}{r:Expr}{l:Nat}(hf:env.scope.kind=.function)(hs:env.scope.names=sc)(h:jX sc y px r=true):swapsWith r (some (.Name y px)) l env=pure true:=by
 by_cases q:r.ctorIdx=8
 ·revert h
  refine Expr.ListComp.elim (motive_1:=λr=>jX sc y px r=true→swapsWith r (some (.Name y px)) l env=pure true) r q λa b scope p h=>?_
  have h:=A0 h
  have h1:=A0 h.1
  have e1:(env.blockKind==.function)=true:=by unfold Env.blockKind;rw[hf];rfl
  have e2:(env.kindOf y==some .local)=true:=by unfold Env.kindOf;rw[hs];exact h1.1
  unfold swapsWith
  dsimp only
  rw[show(Expr.ListComp a b scope p).pos=p from rfl,e1,e2,h1.2,h.2]
  rfl
 ·unfold jX at h
  rw[dif_neg q]at h
  cases h
theorem DE {es:List (Nm×V)}{y:Str}{px spos:Pos}{hp3:List O}(ok:ComOk scope ri F.cs)(h1:RE c sc n F hp ri v hp1)(hr:pC v=true)(hi:(cW v hp1).isSome=true)
  (h:vR c (mC sc scope.names) n ⟨hp1.length+1,eC F.cs (cC scope.names),false⟩ rt ts re hp1.length v m 0 (hp1++[.lst [],.fr []]) hp2)(hw:jX sc y px (.ListComp re [⟨rt,ri,ts,0⟩] scope pos)=true)
  (hk:sc.lookup y=some .local)(t:e7 F y.cps.toList (.ref hp1.length) hp2=some hp3)(e:hp3[hp1.length+1]?.bind O.frE=some es):
  RS c sc n F hp (.Assign [.Name y px] (.ListComp re [⟨rt,ri,ts,0⟩] scope pos) spos) .next (hp3.set (hp1.length+1) .gone):=λA W s env z=>by
 show wpAny _ _ (exec _ env) _ _ _
 rw[exec_Assign_Name_used _ _ _ _ (vS z.f.kind z.sc hw)]
 refine bK (wpAny_standAt (bK ?_))
 show wpAny _ A (do let _ ← comprehension (.ListComp re [⟨rt,ri,ts,0⟩] scope pos) scope env _ (newList []) false (eval ri env) (some (assign (.Name y px) env))) _ _ s
 refine bK (wpAny_mono (yM (QQ:=λ_ s'=>Post c c.FT W hp s .next (hp3.set (hp1.length+1) .gone) Flow.next s') ok z h1 hr hi h λW' s' dD dC E=>?_) (λ_ s' p=>wpAny_pure (wpAny_pure p)) λ_ _ f=>f)
 show wpAny _ A (assign (.Name y px) env (.ref dD)) _ _ _
 refine go E.a (dL (p:=px) hk t A W' s' env (.ref dD) ⟨E.a,z.f.mono E.l.le,z.sc,z.top⟩ ⟨Nat.lt_of_succ_lt E.ltL,congrArg Value.ref E.aD.symm⟩) λW2 _ s2 a2 L2 _=>?_
 have aC:=(L2.le.ρ _ E.ltL).trans E.aC
 exact(MI a2.rel (m4 e)).elim λm hm=>⟨m,aC▸hm,λh'' sb=>have q:=DD a2 (E.l.trans L2) (m4 e) aC E.nC sb
  .mk W2 q.1 q.2 rfl⟩
end
end
section
set_option genCtorIdx true in
inductive Pt where|o|a|b
noncomputable def Pt.nx:Pt→Pt
 |.a=>.b
 |_=>.o
structure GenT where
 t1:Expr
 t2:Expr
 e2:Expr
 t3:Expr
 e3:Expr
noncomputable def GenT.t (T:GenT):Pt→Expr
 |.a=>T.t2
 |_=>T.t3
noncomputable def GenT.e (T:GenT):Pt→Expr
 |.a=>T.e2
 |_=>T.e3
inductive PuS (c:Cx) (sc:aH) (n:Nat) (F:Fx) (T:GenT) (base:Nat) (Y:Pt→V→List O→Prop) (hpE:List O) (R:Pt→List O→Prop) (p:Pt) (hp:List O):Prop
 |stop {hp0 hp1:List O} (i:p=.o) (gc:Gc base hp hp0) (h:RB c sc n F hp0 T.t1 false hp1) (gc2:Gc base hp1 hpE)
 |go {hp0 hp1 hp2:List O} (i:p=.o) (gc:Gc base hp hp0) (h:RB c sc n F hp0 T.t1 true hp1) (gc2:Gc base hp1 hp2) (r:R .a hp2)
 |pass {hp1:List O} (i:p≠.o) (h:RB c sc n F hp (T.t p) false hp1) (r:R p.nx hp1)
 |yld {hp1 hp2:List O} {x:V} (i:p≠.o) (h:RB c sc n F hp (T.t p) true hp1) (e:RE c sc n F hp1 (T.e p) x hp2) (y:Y p x hp2)
noncomputable def vT (c:Cx)(sc:aH)(n:Nat)(F:Fx)(T:GenT)(base:Nat)(Y:Pt→V→List O→Prop)(hpE:List O)(k:Nat):Pt→List O→Prop:=Nat.rec (λ_ _=>False) (λ_ R=>PuS c sc n F T base Y hpE R) k
inductive Cons (c:Cx) (sc:aH) (n:Nat) (F:Fx) (g:Expr) (body:List Stmt) (base:Nat) (x:V) (hp:List O) (P:List O→Prop):Prop
 |mk {fl:Fl} {hp1 hp2 hp3:List O} (h1:RG c sc n F hp g x hp1) (h2:RX c sc n F hp1 body fl hp2) (on:fl.on=true) (gc:Gc base hp2 hp3) (r:P hp3):Cons c sc n F g body base x hp P
section
variable {c:Cx}{gs:aH}{ng:Nat}{gF:Fx}{T:GenT}{base:Nat}(Cn:V→List O→(List O→Prop)→Prop)(hpE:List O)
noncomputable def Nx (c:Cx)(gs:aH)(ng:Nat)(gF:Fx)(T:GenT)(base:Nat):Nat→Pt→List O→Prop
 |0,p,hp=>∃ k,vT c gs ng gF T base (λ_ _ _=>False) hpE k p hp
 |m+1,p,hp=>∃ k,vT c gs ng gF T base (λp x hp1=>Cn x hp1 (Nx c gs ng gF T base m p)) hpE k p hp
noncomputable def YM (c:Cx)(gs:aH)(ng:Nat)(gF:Fx)(T:GenT)(base:Nat):Nat→Pt→V→List O→Prop
 |0,_,_,_=>False
 |m+1,p,x,hp1=>Cn x hp1 (Nx Cn hpE c gs ng gF T base m p)
theorem MJ (m:Nat)(p:Pt)(hp:List O):Nx Cn hpE c gs ng gF T base m p hp=∃ k,vT c gs ng gF T base (YM Cn hpE c gs ng gF T base m) hpE k p hp:=by
 cases m <;>rfl
end
structure FrOk (env:Env) (d u:Nat) (fs:List Frame):Prop where
 en:∀ e∈envsOf (fs.map Frame.where_),e=env
 sp:splitAtGen fs=none
 gd:fs.any Frame.guarded=false
 mks:(marksOver fs (none,none)).1=none
 dp:frameCount (fs.map Frame.where_)≤d
 un:PySem.unitsOf (fs.map Frame.where_)≤u
theorem FrOk.nil {env:Env}:FrOk env 0 0 []:=⟨λ_ m=>(nomatch m),rfl,rfl,rfl,A7 _,A7 _⟩
structure Lite (env:Env) (c:Code):Prop where
 e:∀ x∈c.envs,x=env
 w:c.weight≤2
 u:c.cUnits≤6
theorem FrOk.ret {env:Env}{d u:Nat}{fs:List Frame}(h:FrOk env d u fs){k l c p kp}(hc:Lite env c):FrOk env (d+2) (u+6) (.ret k none false l c p kp::fs):=
 ⟨λe m=>(List.mem_append.mp ((envsOf_cons c p (fs.map Frame.where_):envsOf ((c,p)::fs.map Frame.where_)=_)▸m:e∈c.envs++envsOf (fs.map Frame.where_))).elim (hc.e e) (h.en e),by show(splitAtGen fs).map _=none;rw[h.sp];rfl,h.gd,h.mks,
  by show frameCount ((c,p)::fs.map Frame.where_)≤_;rw[frameCount_cons];have:=h.dp;have:=hc.w;lia,
  by show PySem.unitsOf ((c,p)::fs.map Frame.where_)≤_;rw[unitsOf_cons];have:=h.un;have:=hc.u;lia⟩
theorem FrOk.room {env:Env}{n:Nat}{fs:List Frame}{A:Around}{c:Code}(h:FrOk env 4 12 fs)(ro:Room (n+3) A)(hc:Lite env c):Room n (A.over c fs):=
 ⟨by show(marksOver fs (A.handled,A.handled)).1=none;rw[ro.hd];exact h.mks,
  by show A.depth+frameCount (fs.map Frame.where_)+c.weight+10*n≤900;have:=h.dp;have:=ro.dp;have:=hc.w;lia,
  by show A.units+PySem.unitsOf (fs.map Frame.where_)+c.cUnits+20*n≤9000;have:=h.un;have:=ro.un;have:=hc.u;lia⟩
theorem Fs.over {env:Env}{d u:Nat}{fs:List Frame}{A:Around}{H:Heap}{c:Code}(h:FrOk env d u fs)(hc:Lite env c)(f:FrAt H env):Fs A H→Fs (A.over c fs) H
 |.mk l e a=>.mk (c.envs++(envsOf (fs.map Frame.where_)++l)) (by show pushEnvs _ (pushEnvs _ A.frames)=_;rw[pushEnvs_eq,pushEnvs_eq,e];rfl) λx m=>(List.mem_append.mp m).elim (λq=>(hc.e x q).symm▸f) λm=>(List.mem_append.mp m).elim (λq=>(h.en x q).symm▸f) (a x)
theorem FrOk.up {env:Env}{d u d' u':Nat}{fs:List Frame}(h:FrOk env d u fs)(a:d≤d')(b:u≤u'):FrOk env d' u' fs:=⟨h.en,h.sp,h.gd,h.mks,A5 h.dp a,A5 h.un b⟩
theorem jY {t:Expr}{b o:List Stmt}{env:Env}:Lite env (Code.whileLoop t b o env):=⟨λx m=>(nomatch (m:x∈([]:List Env))),A3 rfl,A3 rfl⟩
theorem DF {b:List Stmt}{env:Env}:Lite env (Code.func b env):=⟨λx m=>List.mem_singleton.mp (m:x∈[env]),A3 rfl,A3 rfl⟩
structure GenX where
 s1:Stmt
 t:GenT
 p1:Pos
 p2:Pos
 p3:Pos
 pe:Pos
 py:Pos
 qe:Pos
 qy:Pos
noncomputable def GenX.y (G:GenX):Pt→List Stmt
 |.a=>[.Expr (.Yield (some G.t.e2) G.qy) G.qe]
 |_=>[.Expr (.Yield (some G.t.e3) G.py) G.pe]
noncomputable def GenX.w3 (G:GenX):List Stmt:=[.While G.t.t3 (G.y .b) [] G.p3]
noncomputable def GenX.w (G:GenX):List Stmt:=.While G.t.t2 (G.y .a) [] G.p2::G.w3
noncomputable def GenX.b (G:GenX):List Stmt:=[G.s1,.While G.t.t1 G.w [] G.p1]
structure GQ where
 c:Cx
 gs:aH
 ng:Nat
 gf:Nat
 X:GenX
 Cn:V→List O→(List O→Prop)→Prop
 hpE:List O
 Wi:Wd
 hpi:List O
 si:Shared
 env:Env
noncomputable def GQ.F (q:GQ):Fx:=⟨q.gf,[],false⟩
structure GI (q:GQ) (W:Wd) (hp:List O) (s₀ s:Shared):Prop where
 r:Rel q.c.P W hp s.heap
 t:0<s.toks
 e:Ext q.Wi q.hpi q.si.heap W hp s.heap
 g:GenS s₀.gens s.gens
 o:s.os=s₀.os
structure GB (q:GQ) (A:Around):Prop where
 fs:Fs A q.si.heap
 fe:FrAt q.si.heap q.env
 b:Rel q.c.P q.Wi q.hpi q.si.heap
 k:∀ a o,q.c.K.lookup a=some o→q.Wi.fz a=some o
 f0:FrR q.Wi q.F q.env
 hn:q.env.scope.names=q.gs
 hco:q.env.scope.isCoroutine=false
 hia:interactive q.env=false
noncomputable def GQ.PL (q:GQ)(m k:Nat)(p:Pt)(hp:List O):Prop:=vT q.c q.gs q.ng q.F q.X.t q.hpi.length (YM q.Cn q.hpE q.c q.gs q.ng q.F q.X.t q.hpi.length m) q.hpE k p hp
noncomputable def GQ.NX (q:GQ)(m:Nat)(p:Pt)(hp:List O):Prop:=Nx q.Cn q.hpE q.c q.gs q.ng q.F q.X.t q.hpi.length m p hp
theorem GQ.nx {q:GQ}{m:Nat}{p:Pt}{hp:List O}(h:q.NX m p hp):∃ k,q.PL m k p hp:=(MJ q.Cn q.hpE m p hp).mp h
section
variable {q:GQ}{A:Around}
theorem GI.at {W:Wd}{hp:List O}{s₀ s:Shared}(b:GB q A)(g:GI q W hp s₀ s){n:Nat}{c:Code}{fs:List Frame}(fo:FrOk q.env 4 12 fs)(hc:Lite q.env c)(ro:Room (n+3) A):AtF q.c q.gs n q.F hp (A.over c fs) W s q.env:=⟨⟨fo.room ro hc,g.r,λa o e=>g.e.le.fz a o (b.k a o e),g.t,.over fo hc (b.fe.ext g.e) (b.fs.ext g.e)⟩,b.f0.mono g.e.le,b.hn,λq=>Bool.noConfusion q⟩
theorem GI.step {W W':Wd}{hp hp':List O}{s₀ s s':Shared}{n:Nat}{A:Around}(g:GI q W hp s₀ s)(z:At q.c n A W' hp' s')(L:Lat W hp s W' hp' s'):GI q W' hp' s₀ s':=
 ⟨z.rel,z.tk,g.e.trans L.e,g.g.trans L.g,L.o.trans g.o⟩
theorem GI.drop {W:Wd}{hp hp':List O}{s₀ s:Shared}(b:GB q A)(g:GI q W hp s₀ s)(x:Gc q.hpi.length hp hp'):∃ W',GI q W' hp' s₀ s:=by
 cases x with
 |id=>exact⟨W,g⟩
 |fold e=>exact(by rcases jO (u:=.none) (v:=.dat .non) (b.b.len.symm▸e:g7 q.Wi.n _ _ (.dat .non) hp=_) (.mk W g.r g.e rfl λ_ n z=>⟨n,z⟩)with⟨W3,R,E,_,C⟩;exact⟨W3,R,g.t,E,g.g,g.o⟩)
inductive GYi (q:GQ) (m:Nat) (s₀:Shared) (v:Value) (s₁:Shared) (kap:Resume→Shared→Prop):Prop
 |mk (W1:Wd) (hp1:List O) (x:V) (p:Pt) (gi:GI q W1 hp1 s₀ s₁) (xv:VR q.c.P W1 x v) (cn:q.Cn x hp1 (q.NX m p))
   (k:∀ s'' W'' hp'',GI q W'' hp'' s'' s''→q.NX m p hp''→kap (.send .none) s'')
noncomputable def GY (q:GQ):Protocol:=λm s₀ v s₁ kap=>GYi q m s₀ v s₁ kap
noncomputable def GR (q:GQ):GenEnd:=λ_ s₀ r s₁=>r=.ok (.ret .none)∧∃ W1,GI q W1 q.hpE s₀ s₁
noncomputable abbrev GQ.Sg (q:GQ)(A:Around)(m:Nat)(s₀:Shared)(cd:Code)(t:Sem Fin)(fs:List Frame)(s:Shared):Prop:=Seg q.c.M A (GR q) (GY q) m s₀ cd t fs s
noncomputable def GQ.yl (q:GQ)(p:Pt):Code:=.whileLoop (q.X.t.t p) (q.X.y p) [] q.env
noncomputable def GQ.ol (q:GQ):Code:=.whileLoop q.X.t.t1 q.X.w [] q.env
theorem DG {p:Prop}{a b:Prop} [Decidable p] (h:¬ p)(x:b):if p then a else b:=by rw[if_neg h];exact x
theorem DH {p:Prop}{a b:Prop} [Decidable p] (h:p)(x:a):if p then a else b:=by rw[if_pos h];exact x
noncomputable def OP (q:GQ)(A:Around)(p:Pt)(m:Nat):Prop:=∀ (k:Nat) (fs:List Frame),FrOk q.env 4 12 fs→
 (∀ m' k',(m'<m∨(m'=m∧k'<k))→∀ W hp s₀ s,GI q W hp s₀ s→q.PL m' k' p.nx hp→q.Sg A m' s₀ (q.yl p) (leafOf (.ok .next)) fs s)→
 ∀ W hp s₀ s,GI q W hp s₀ s→q.PL m k p hp→q.Sg A m s₀ (q.yl p) (q.c.M.den (q.yl p)) fs s
theorem DI (b:GB q A){p:Pt}{m:Nat}{fs:List Frame}{n:Nat}{s₀ s:Shared}{K:Flow→Sem Fin}{H:Value→Sem Fin}{lv:List Value→List Value}{x:V}{W:Wd}{hp hp2:List O}(fo:FrOk q.env 4 12 fs)(z:AtF q.c q.gs n q.F hp (A.over (q.yl p) fs) W s q.env)(g:GI q W hp s₀ s)
  (e:RE q.c q.gs n q.F hp (q.X.t.e p) x hp2)(hp0:p≠.o)(y:q.Cn x hp2 (q.NX m p))(h:∀ s'' W'' hp'',GI q W'' hp'' s'' s''→q.NX m p hp''→q.Sg A m s'' (q.yl p) (K .next) fs s''):
  q.Sg A (m+1) s₀ (q.yl p) ((execs (q.X.y p) q.env).wrap K H id lv) fs s:=by
 have go:∀ ex py pe,q.X.y p=[.Expr (.Yield (some ex) py) pe]→q.X.t.e p=ex→q.Sg A (m+1) s₀ (q.yl p) ((execs (q.X.y p) q.env).wrap K H id lv) fs s:=λex py pe h1 h2=>by
  rw[h1]
  refine seg_execs_cons (seg_Expr_Yield fo.sp rfl fo.gd (wpAny_mono ((h2▸e).go z λW2 v s2 z2 L2 x2=>λkap hk=>?_) (λ_ _ x=>x) λ_ _ f=>f.elim) b.hco b.hia)
  exact .mk W2 _ _ p (g.step z2.a L2) x2 y λs'' W'' hp'' g'' nx=>hk .none s'' (seg_execs_nil (h s'' W'' hp'' g'' nx))
 cases p with
 |o=>exact absurd rfl hp0
 |a=>exact go _ _ _ rfl rfl
 |b=>exact go _ _ _ rfl rfl
theorem tC (b:GB q A)(ro:Room (q.ng+3) A){p:Pt}(hp0:p≠.o)(m:Nat)(ih:∀ m',m=m'+1→OP q A p m'):OP q A p m:=λk fs fo hl W hp s₀ s g h=>by
 have z:AtF q.c q.gs q.ng q.F hp (A.over (q.yl p) fs) W s q.env:=g.at b fo jY ro
 cases k with
 |zero=>exact(h:False).elim
 |succ k=>
 cases(h:PuS ..)with
 |stop i _ _ _=>exact absurd i hp0
 |go i _ _ _ _=>exact absurd i hp0
 |pass _ h r=>exact seg_whileLoop (wpAny_mono (h.go z (Z:=λb s'=>if b=true then _ else _) λW1 b s1 z1 L1 x1=>DG (by rw[show b=false from x1];exact A8) (seg_execs_nil (hl m _ (.inr ⟨rfl,Nat.lt_succ_self _⟩) W1 _ s₀ s1 (g.step z1.a L1) r))) (λ_ _ x=>x) λ_ _ f=>f.elim)
 |yld _ h e y=>cases m with
  |zero=>exact(y:False).elim
  |succ m=>exact seg_whileLoop (wpAny_mono (h.go z (Z:=λb s'=>if b=true then _ else _) λW1 t s1 z1 L1 x1=>DH x1 (DI b fo z1 (g.step z1.a L1) e hp0 y λs'' W'' hp'' g'' nx=>
    seg_again rfl ((GQ.nx nx).elim λk' nx=>ih m rfl k' fs fo (λm' k2 hm=>hl m' k2 (.inl (hm.elim Nat.lt_succ_of_lt λx=>x.1▸Nat.lt_succ_self _))) W'' hp'' s'' s'' g'' nx))) (λ_ _ x=>x) λ_ _ f=>f.elim)
theorem pZ (b:GB q A)(ro:Room (q.ng+3) A){p:Pt}(hp0:p≠.o)(m:Nat):OP q A p m:=by
 induction m with
 |zero=>exact tC b ro hp0 0 nofun
 |succ m ih=>exact tC b ro hp0 (m+1) λm' e=>Nat.succ.inj e▸ih
noncomputable def Ib (q:GQ)(A:Around)(fs:List Frame)(m k:Nat):Prop:=∀ W hp s₀ s,GI q W hp s₀ s→q.PL m k .o hp→q.Sg A m s₀ q.ol (q.c.M.den q.ol) fs s
theorem DJ (b:GB q A)(ro:Room (q.ng+3) A){fs:List Frame}(fo:FrOk q.env 2 6 fs){m k:Nat}(ih:∀ m' k',(m'<m∨(m'=m∧k'<k+1))→Ib q A fs m' k'){W:Wd}{hp:List O}{s₀ s:Shared}(g:GI q W hp s₀ s)(r:q.PL m k .a hp){K:Flow→Sem Fin}{H:Value→Sem Fin}{lv:List Value→List Value}(hK:K .next=.pure (.again q.ol)):
  q.Sg A m s₀ q.ol ((execs q.X.w q.env).wrap K H id lv) fs s:=by
 refine seg_execs_cons (seg_While λp=>?_)
 refine pZ (p:=.a) b ro nofun m _ _ (fo.ret jY) (λm' k' hm W' hp' s₀' s' g' q'=>?_) W _ s₀ s g r
 refine seg_leaf (.ok .next) ?_
 show Seg _ _ _ _ _ _ _ ((execs q.X.w3 q.env).wrap _ _ _ _) _ _
 refine seg_execs_cons (seg_While λp'=>?_)
 refine pZ (p:=.b) b ro nofun m' k' _ (fo.ret jY) (λm2 k2 hm2 W3 hp3 s₀2 s2 g3 q3=>?_) W' hp' s₀' s' g' q'
 refine seg_leaf (.ok .next) ?_
 show Seg _ _ _ _ _ _ _ ((execs [] q.env).wrap _ _ _ _) _ _
 refine seg_execs_nil ?_
 show Seg _ _ _ _ _ _ _ ((execs [] q.env).wrap K H id lv) _ _
 refine seg_execs_nil ?_
 rw[hK]
 exact seg_again rfl (ih m2 k2 (by lia) W3 hp3 s₀2 s2 g3 q3)
theorem DK (b:GB q A)(ro:Room (q.ng+3) A){fs:List Frame}(fo:FrOk q.env 2 6 fs)(hend:∀ m W s₀ s,GI q W q.hpE s₀ s→q.Sg A m s₀ q.ol (leafOf (.ok .next)) fs s){m k:Nat}(ih:∀ m' k',(m'<m∨(m'=m∧k'<k))→Ib q A fs m' k'):Ib q A fs m k:=λW hp s₀ s g h=>by
 have fo4:FrOk q.env 4 12 fs:=fo.up (by decide) (by decide)
 cases k with
 |zero=>exact(h:False).elim
 |succ k=>
 cases(h:PuS ..)with
 |pass i _ _=>exact absurd rfl i
 |yld i _ _ _=>exact absurd rfl i
 |stop _ gc h gc2=>
  obtain⟨W0,g⟩:=g.drop b gc
  exact seg_whileLoop (wpAny_mono (h.go (g.at (c:=q.ol) b fo4 jY ro) (Z:=λb s'=>if b=true then _ else _) λW1 t s1 z1 L1 x1=>DG (by rw[show t=false from x1];exact A8) (((g.step z1.a L1).drop b gc2).elim λW2 g2=>seg_execs_nil (hend m W2 s₀ s1 g2))) (λ_ _ x=>x) λ_ _ f=>f.elim)
 |go _ gc h gc2 r=>
  obtain⟨W0,g⟩:=g.drop b gc
  exact seg_whileLoop (wpAny_mono (h.go (g.at (c:=q.ol) b fo4 jY ro) (Z:=λb s'=>if b=true then _ else _) λW1 t s1 z1 L1 x1=>DH x1 (((g.step z1.a L1).drop b gc2).elim λW2 g2=>DJ b ro fo ih g2 r rfl)) (λ_ _ x=>x) λ_ _ f=>f.elim)
theorem Ak (b:GB q A)(ro:Room (q.ng+3) A){fs:List Frame}(fo:FrOk q.env 2 6 fs)(hend:∀ m W s₀ s,GI q W q.hpE s₀ s→q.Sg A m s₀ q.ol (leafOf (.ok .next)) fs s):∀ m k,Ib q A fs m k:=by
 intro m
 induction m using Nat.strongRecOn with
 |ind m ihm=>
  intro k
  induction k using Nat.strongRecOn with
  |ind k ihk=>exact DK b ro fo hend λm' k' h=>h.elim (λx=>ihm m' x k') λx=>x.1.symm▸ihk k' x.2
theorem Al (b:GB q A)(ro:Room (q.ng+3) A){m k:Nat}{W:Wd}{hp hp1:List O}{s:Shared}(g:GI q W hp s s)(h0:RS q.c q.gs q.ng q.F hp q.X.s1 .next hp1)(h:q.PL m k .o hp1):q.Sg A m s (.func q.X.b q.env) (q.c.M.den (.func q.X.b q.env)) [] s:=by
 refine seg_func (seg_execs_cons (seg_wrap (wpAny_mono (h0.go (g.at (c:=.func q.X.b q.env) (fs:=[]) b (FrOk.nil.up (Nat.zero_le _) (Nat.zero_le _)) DF ro) λW1 f s1 z1 L1 x1=>?_) (λ_ _ x=>x) λ_ _ f=>f.elim)))
 rw[show f=.next from x1]
 refine seg_execs_cons (seg_While λp=>?_)
 refine Ak b ro (FrOk.nil.ret DF) (λm' W' s₀' s' g'=>?_) m k W1 _ s s1 (g.step z1.a L1) h
 refine seg_leaf (.ok .next) ?_
 show Seg _ _ _ _ _ _ _ ((execs [] q.env).wrap _ _ _ _) _ _
 exact seg_execs_nil (seg_end (.ok (.ret .none)) ⟨rfl,W',g'⟩)
end
end
section
noncomputable def DL:Nm:=[95,95,105,116,101,114,95,95]
theorem Ic:st DL=("__iter__" :Str):=by decide+kernel
noncomputable def fK:Nm:=aAy
section
variable {M:Model}{A:Around}{E:Value→Shared→Prop}{s:Shared}{K:Frag}{x C f:Addr}{ox:Obj}{od:Option Obj}
theorem DM {Q:Value→Shared→Prop}(X:K.In s.heap)(I:PySem.W.InstAt s.heap x ox C od)(hs:findIn K (.ref C) "__iter__" =some (some (.ref f)))(hf:typeIn K (.ref f)=some (.type "function"))
  (h:wpAny M A (call (.ref f) [.ref x]) (λv s'=>wpAny M A (specialOf v "__next__") (λr s₂=>r≠none∧Q v s₂) E s') E s):wpAny M A (pyIter (.ref x)) Q E s:=by
 have mid:wpAny M A (do let v ← call (.ref f) [.ref x];pure (some v)) (λr s'=>∃ v,r=some v∧wpAny M A (specialOf v "__next__") (λr s₂=>r≠none∧Q v s₂) E s') E s:=
  bK (wpAny_mono h (λv s' q=>wpAny_pure ⟨v,rfl,q⟩) λ_ _ z=>z)
 have asked:∀ refuse:Sem Value,wpAny M A (callSpecialIfBoundUnlessNone? (.ref x) "__iter__" refuse) (λr s'=>∃ v,r=some v∧wpAny M A (specialOf v "__next__") (λr s₂=>r≠none∧Q v s₂) E s') E s:=by
  intro refuse
  unfold callSpecialIfBoundUnlessNone?
  simp only[bindSpecialIfBound?]
  refine wpAny_holding (bK (bK (bK (I.type.here ((looks_findIn X hs).here ?_)))))
  have go:wpAny M A (if(Value.ref f==Value.none)=true then(refuse >>= λv=>pure (some v))else(do let v ← call (.ref f) [.ref x];pure (some v))) (λr s'=>∃ v,r=some v∧wpAny M A (specialOf v "__next__") (λr s₂=>r≠none∧Q v s₂) E s') E s:=by
   rw[if_neg (by exact A8)]
   exact mid
  refine bK (wpAny_askSetting (wpAny_ite ?_))
  split
  ·exact bK ((bind_fn X _ hf).here (wpAny_pure (by exact go)))
  ·exact wpAny_tryCatch (bK ((bind_fn X _ hf).here (wpAny_pure (by exact go))))
 unfold pyIter
 refine bK (bK (I.type.here ((looks_findIn X hs).here ?_)))
 show wpAny M A (callSpecialIfBoundUnlessNone? (.ref x) "__iter__" _ >>= _) Q E s
 refine bK (wpAny_mono (asked _) (λr s' hr=>?_) λ_ _ z=>z)
 obtain⟨v,rfl,hv⟩:=hr
 refine bK (wpAny_mono hv (λr s₂ hr=>?_) λ_ _ z=>z)
 cases r with
 |none=>exact absurd rfl hr.1
 |some _=>exact wpAny_pure hr.2
end
structure GenI (K:Frag) (fd:FuncData) (ns:aH) (body:List Stmt):Prop where
 code:codeIn K fd.code fd.qualname=true
 body:fd.body=.stmts body
 clo:fd.closure=[]
 glob:fd.globals=mainGlobals
 blt:fd.builtins=builtinsNs
 co:fd.scope.isCoroutine=false
 gen:fd.scope.isGenerator=true
 kind:fd.scope.kind=.function
 names:fd.scope.names=ns
 cells:cS ns=[]
 self:ns.lookup (st fK)=some .local
inductive GenD (K:Frag) (a:Addr) (names:aH) (body:List Stmt):Prop
 |mk (o:Obj) (fd:FuncData) (at_:K.lookup a=some o) (d:o.data=.func fd) (i:GenI K fd names body) (bind:∀ (s:Shared) (v:Value),K.In s.heap→BindsTo s fd ⟨[v],[]⟩ [(st fK,v)])
theorem p4 {s:Shared}{g:Nat}{x:GenState}(h:g<s.gens.size):(s.setGen g x).gens[g]? =some x:=by
 unfold Shared.setGen;simp[h]
theorem p6 {s:Shared}{g i:Nat}{x:GenState}(h:i≠g):(s.setGen g x).gens[i]? =s.gens[i]? :=Array.getElem?_setIfInBounds_ne (Ne.symm h)
theorem tD {s:Shared}{g:Nat}{x:GenState}:(s.setGen g x).gens.size=s.gens.size:=Array.size_setIfInBounds ..
structure GenG (s s':Shared) (g:Nat):Prop where
 le:s.gens.size≤g
 lt:g<s'.gens.size
 keep:∀ i,i<s.gens.size→s'.gens[i]? =s.gens[i]?
 bare:∀ i z,s.gens.size≤i→i≠g→s'.gens[i]? =some z→z.bare=true
theorem GenG.set {s s':Shared}{g:Nat}{z:GenState}(h:GenG s s' g):GenG s (s'.setGen g z) g:=
 ⟨h.le,by rw[tD];exact h.lt,λi hi=>(p6 (Nat.ne_of_lt (A6 hi h.le))).trans (h.keep i hi),λi z' hi hn e=>h.bare i z' hi hn ((p6 hn).symm.trans e)⟩
theorem GenG.step {s s' s'':Shared}{g:Nat}(h:GenG s s' g)(S:GenS s'.gens s''.gens):GenG s s'' g:=
 ⟨h.le,A6 h.lt S.size,λi hi=>(S.keep i (Nat.lt_trans (A6 hi h.le) h.lt)).trans (h.keep i hi),λi z hi hn e=>
  (Nat.lt_or_ge i s'.gens.size).elim (λq=>h.bare i z hi hn ((S.keep i q).symm.trans e)) λq=>S.bare i z q e⟩
theorem GenG.done {s s':Shared}{g:Nat}(h:GenG s s' g)(e:s'.gens[g]? =some .finished):GenS s.gens s'.gens:=
 ⟨Nat.le_of_lt (Nat.lt_of_le_of_lt h.le h.lt),h.keep,λi z hi e'=>(Classical.em (i=g)).elim (λq=>by rw[q,e]at e';cases e';rfl) λq=>h.bare i z hi q e'⟩
theorem GenG.new {s s2 s3:Shared}{x:GenState}(S:GenS s.gens s2.gens)(e:s3.gens=s2.gens.push x):GenG s s3 s2.gens.size:=
 ⟨S.size,by rw[e,Array.size_push];exact Nat.lt_succ_self _,λi hi=>by
  have q:=A6 hi S.size
  rw[e,Array.getElem?_push_lt q,← Array.getElem?_eq_getElem q];exact S.keep i hi,λi z hi hn h=>by
  rw[e]at h
  by_cases q:i<s2.gens.size
  ·rw[Array.getElem?_push_lt q,← Array.getElem?_eq_getElem q]at h
   exact S.bare i z hi h
  ·rw[Array.getElem?_eq_none (by rw[Array.size_push];lia)]at h;cases h⟩
theorem Rel.grown {P:Params}{W:Wd}{hp:List O}{h h':Heap}(R:Rel P W hp h)(hk:∀ b o,h.get? b=some o→h'.get? b=some o):Rel P W hp h'∧Ext W hp h W hp h':=
 ⟨R.via (k:=id) R.len (λa o e=>hk _ _ (R.fz a o e)) R.nf (λ_ o v=>.mk o v rfl ((R.obj _ _ v).imp (λ_=>hk _ _) λ_=>id) (R.cold _ _ v)) λ_ _ _ _=>id,
  .refl W,λa o e=>⟨λ_=>.here (hk a o e),id,.here (hk a o e),λ_=>.inl⟩⟩
structure EnvG (W:Wd) (H:Heap) (gf:Nat) (gs:aH) (env:Env):Prop where
 fe:FrAt H env
 f:FrR W ⟨gf,[],false⟩ env
 n:env.scope.names=gs
 co:env.scope.isCoroutine=false
theorem Am (hp1:List O)(l:Nat):xK ⟨hp1.length,[],false⟩ [fK] [.ref l] (hp1++[.fr []])=some (hp1++[.fr [(fK,.ref l)]]):=by
 show(((hp1++[O.fr []])[hp1.length]?.bind O.frE).map λes=>(hp1++[O.fr []]).set hp1.length (.fr (pt es fK (.ref l)))).bind _=_
 rw[List.getElem?_concat_length]
 show some ((hp1++[O.fr []]).set hp1.length (.fr [(fK,.ref l)]))=_
 rw[List.set_append_right hp1.length _ (A7 _),Nat.sub_self]
 rfl
inductive LpI (q:GQ) (A:Around) (g:Nat) (s:Shared) (m:Nat) (s':Shared):Prop
 |mk (W':Wd) (hp':List O) (gst:GenState) (gi:GI q W' hp' s' s') (os:s'.os=s.os) (gg:GenG s s' g) (at_:s'.gens[g]? =some gst) (goes:gst.Goes q.c.M A.in1 (GR q) (GY q) m (.send .none) (s'.setGen g .running)):LpI q A g s m s'
structure LpB (q:GQ) (A:Around) (sc:aH) (n:Nat) (F:Fx) (y:Str) (px:Pos) (rb:List Stmt) (W:Wd) (hp:List O) (s:Shared) (env:Env) (ga:Addr) (g:Nat):Prop where
 b:GB q A.in1
 z:AtF q.c sc n F hp A W s env
 E:Ext W hp s.heap q.Wi q.hpi q.si.heap
 isg:∀ W' hp' h,q.Wi.le W'→Rel q.c.P W' hp' h→h.IsGen ga g
 cn:q.Cn=Cons q.c sc n F (.Name y px) rb q.hpi.length
section
variable {q:GQ}{A:Around}{sc:aH}{n:Nat}{F:Fx}{y:Str}{px:Pos}{rb:List Stmt}{W:Wd}{hp:List O}{s:Shared}{env:Env}{ga:Addr}{g:Nat}
theorem LpB.at (B:LpB q A sc n F y px rb W hp s env ga g){W':Wd}{hp':List O}{s₀ s':Shared}(gi:GI q W' hp' s₀ s')(gs:GenState):AtF q.c sc n F hp' A W' (s'.setGen g gs) env:=
 ⟨⟨B.z.a.room,gi.r,λa o e=>gi.e.le.fz a o (B.b.k a o e),gi.t,(B.z.a.fs.ext B.E).ext gi.e⟩,B.z.f.mono (B.E.le.trans gi.e.le),B.z.sc,B.z.top⟩
theorem vU (B:LpB q A sc n F y px rb W hp s env ga g){mm:Nat}{s' s5 s7:Shared}{gs5:GenState}{W5 W7:Wd}{hp5 hp7 hp8:List O}{p:Pt}(gg:GenG s s' g)(os:s'.os=s.os)(gi5:GI q W5 hp5 (s'.setGen g .running) s5)
  (kp:∀ s'' W'' hp'',GI q W'' hp'' s'' s''→q.NX (mm-1) p hp''→(match mm with|0=>False|m+1=>gs5.Goes q.c.M A.in1 (GR q) (GY q) m (.send .none) s''))
  (z7:At q.c n A W7 hp7 s7)(L:Lat W5 hp5 (s5.setGen g gs5) W7 hp7 s7)(gc:Gc q.hpi.length hp7 hp8)(r:q.NX (mm-1) p hp8):∃ m,m<mm∧LpI q A g s m s7:=by
 have lt5:g<s5.gens.size:=A6 (gg.set (z:=.running)).lt gi5.g.size
 have GG5:GenG s (s5.setGen g gs5) g:=((gg.set (z:=.running)).step gi5.g).set
 obtain⟨W8,gi8⟩:=GI.drop (s₀:=s7) B.b ⟨z7.rel,z7.tk,gi5.e.trans L.e,.refl _,rfl⟩ gc
 have kq:=kp (s7.setGen g .running) W8 _ ⟨gi8.r,gi8.t,gi8.e,.refl _,rfl⟩ r
 cases mm with
 |zero=>exact kq.elim
 |succ mm=>exact⟨mm,Nat.lt_succ_self _,.mk W8 _ gs5 gi8 (L.o.trans (gi5.o.trans os)) (GG5.step L.g) ((L.g.keep _ GG5.lt).trans (p4 lt5)) kq⟩
theorem DN (B:LpB q A sc n F y px rb W hp s env ga g){mm:Nat}{s' s5:Shared}{gs5:GenState}{v:Value}{Q:Flow→Shared→Prop}{E1 E2:Value→Shared→Prop}(gg:GenG s s' g)(os:s'.os=s.os)
  (hy:GYi q (mm-1) (s'.setGen g .running) v s5 λr' s''=>match mm with|0=>False|m+1=>gs5.Goes q.c.M A.in1 (GR q) (GY q) m r' s'')
  (hQ:∀ s3 f,(f=.next∨f=.cont)→(∃ m,m<mm∧LpI q A g s m s3)→Q f s3):wpAny q.c.M A (assign (.Name y px) env v) (λ_ s₂=>wpAny q.c.M A (execs rb env) Q E2 s₂) E1 (s5.setGen g gs5):=
 match hy with
 |.mk W5 hp5 x p gi5 xv cn kp=>match(B.cn▸cn:Cons q.c sc n F (.Name y px) rb q.hpi.length x hp5 (q.NX (mm-1) p))with
  |.mk g1 g2 on gc r=>wpAny_mono (go (B.at gi5 gs5).a (g1 A W5 _ env v (B.at gi5 gs5) xv) λW6 _ s6 a6 L6 _=>
    wpAny_mono (g2.go ((B.at gi5 gs5).next L6 a6) λW7 f s7 z7 L7 x7=>hQ s7 f (Cy x7 on) (vU B gg os gi5 kp z7.a (L6.trans L7) gc r)) (λ_ _ z=>z) λ_ _ f=>f.elim) (λ_ _ z=>z) λ_ _ f=>f.elim
theorem DO (B:LpB q A sc n F y px rb W hp s env ga g){R:Result→Shared→Prop}(hR:∀ W5 s',Rel q.c.P W5 q.hpE s'.heap→Lat W hp s W5 q.hpE s'→R (.ok .next) s'){m:Nat}{s0:Shared}(h:LpI q A g s m s0):codeAny q.c.M A (.forLoop (.Name y px) (.ref ga) rb [] env) R s0:=by
 refine codeAny_forLoop (LpI q A g s) ?_ m h
 rintro mm s' ⟨W',hp',gst,gi,os',GG',hgs,goes⟩
 refine wpAny_pyNext_gen B.z.a.room.hd (B.at gi .running).a.nolimit B.z.a.room.rl (B.isg W' hp' _ gi.e.le gi.r) hgs goes (λv s5 gs5 hy=>DN B GG' os' hy λs3 f o x=>(by cases o with|inl e=>subst e;exact x|inr e=>subst e;exact x)) λs5 hp5 h' hk'=>?_
 refine hp5.elim λW5 gi5=>wpAny_execs_nil ?_
 have gr:=gi5.r.grown hk'
 exact hR W5 _ gr.1 ⟨(B.E.trans gi5.e).trans gr.2,(((GG'.set (z:=.running)).step gi5.g).set (z:=.finished)).done (p4 (A6 (GG'.set (z:=.running)).lt gi5.g.size)),gi5.o.trans os'⟩
theorem OQ {m k:Nat}{s3:Shared}{hp2:List O}{R:Result→Shared→Prop}(B:LpB q A sc n F y px rb W hp s env ga s3.gens.size)(rm:Room (q.ng+3) A.in1)(S:GenS s.gens s3.gens)(os:q.si.os=s.os)(g4:q.si.gens=s3.gens.push (.fresh (.func q.X.b q.env)))(t:0<q.si.toks)
  (h0:RS q.c q.gs q.ng q.F q.hpi q.X.s1 .next hp2)(h:q.PL m k .o hp2)(hR:∀ W5 s',Rel q.c.P W5 q.hpE s'.heap→Lat W hp s W5 q.hpE s'→R (.ok .next) s'):codeAny q.c.M A (.forLoop (.Name y px) (.ref ga) rb [] env) R q.si:=
 DO B hR (.mk q.Wi q.hpi (.fresh (.func q.X.b q.env)) ⟨B.b.b,t,.refl ..,.refl _,rfl⟩ os (GenG.new S g4) (by rw[g4,Array.getElem?_push_size]) ⟨rfl,Al (s:=q.si.setGen s3.gens.size .running) B.b rm ⟨B.b.b,t,.refl ..,.refl _,rfl⟩ h0 h⟩)
end
section
variable {c:Cx}{sc gs:aH}{fa ng n:Nat}{F:Fx}{X:GenX}{ri:Expr}{px pos:Pos}{y:Str}{rb:List Stmt}{l m k:Nat}{hp hp1 hp2 hpE:List O}{I:Ins}{cl:Cl}
theorem Ao {hpi:List O}{W W3:Wd}{s s3 s4:Shared}{A:Around}{env genv:Env}{ob:Obj}{gf:Nat}{E:Value→Shared→Prop}{R:Result→Shared→Prop}(z:AtF c sc n F hp A W s env)(rm:Room (ng+3) A.in1)(z3:AtF c gs (ng+3) ⟨gf,[],false⟩ hpi A.in1 W3 s3 genv)(L:Lat W hp s W3 hpi s3)
  (fe:FrAt s3.heap genv)(co:genv.scope.isCoroutine=false)(hfree:ob.isFreed=false)(hnf:frm ob=false)(isg:∀ {h:Heap},h.get? s3.heap.objs.size=some ob→h.IsGen s3.heap.objs.size s3.gens.size)
  (h4h:s4.heap=s3.heap.push ob)(h4g:s4.gens=s3.gens.push (.fresh (.func X.b genv)))(h4o:s4.os=s3.os)(h4t:0<s4.toks)(h0:RS c gs ng ⟨gf,[],false⟩ hpi X.s1 .next hp2)
  (h:vT c gs ng ⟨gf,[],false⟩ X.t hpi.length (YM (Cons c sc n F (.Name y px) rb hpi.length) hpE c gs ng ⟨gf,[],false⟩ X.t hpi.length m) hpE k .o hp2)(hR:∀ W5 s',Rel c.P W5 hpE s'.heap→Lat W hp s W5 hpE s'→R (.ok .next) s'):
  wpAny c.M A (specialOf (.ref s3.heap.objs.size) "__next__") (λr s₂=>r≠none∧codeAny c.M A (.forLoop (.Name y px) (.ref s3.heap.objs.size) rb [] env) R s₂) E s4:=by
 have y4:=z3.a.rel.allocZ hfree hnf
 rw[← h4h]at y4
 have hfz:(W3.freeze s3.heap.objs.size ob).fz s3.heap.objs.size=some ob:=if_pos rfl
 generalize W3.freeze s3.heap.objs.size ob=W4 at y4 hfz
 refine wpAny_specialOf (isg (y4.1.fz _ _ hfz)).typeIs slot_gen_next.lookup ⟨nofun,?_⟩
 exact OQ (q:=⟨c,gs,ng,gf,X,Cons c sc n F (.Name y px) rb hpi.length,hpE,W4,hpi,s4,genv⟩) (m:=m) (k:=k)
  ⟨⟨z3.a.fs.ext y4.2,fe.ext y4.2,y4.1,λa o e=>y4.2.le.fz a o (z3.a.kin a o e),z3.f.mono y4.2.le,z3.sc,co,by unfold interactive;rw[z3.f.kind];rfl⟩,z,L.e.trans y4.2,λW' hp' h le r=>isg (r.fz _ _ (le.fz _ _ hfz)),rfl⟩
  rm L.g (h4o.trans L.o) h4g h4t h0 h hR
theorem OS (D:GenD c.K fa gs X.b)(hf:∀ env x,foldedSetIterable ri env x=pure x)(hng:ng+5≤n)
  (h1:RE c sc n F hp ri (.ref l) hp1)(e1:sM hp1 l=some I)(e2:qW c.G.cls I.c=some cl)(e3:lk cl.meths DL=some fa)(h0:RS c gs ng ⟨hp1.length,[],false⟩ (hp1++[.fr [(fK,.ref l)]]) X.s1 .next hp2)
  (h:vT c gs ng ⟨hp1.length,[],false⟩ X.t (hp1++[O.fr [(fK,.ref l)]]).length (YM (Cons c sc n F (.Name y px) rb (hp1++[O.fr [(fK,.ref l)]]).length) hpE c gs ng ⟨hp1.length,[],false⟩ X.t (hp1++[O.fr [(fK,.ref l)]]).length m) hpE k .o hp2):RS c sc n F hp (.For (.Name y px) ri rb [] pos) .next hpE:=λA W s env z=>by
 refine wpAny_For (h1.go z λW1 u s1 z1 L1 x1=>?_) (hf env)
 match D,i7 z1.a.rel e1 with
 |.mk o fd ho hd Gi bind,.mk en kk lv nd E gd IA=>
 rw[show u=.ref (W1.ρ l)from x1.2]
 have M:=(Bw (c:=c) e2).meths DL fa e3
 have mf:=M.find
 rw[Ic]at mf
 have KI:=z1.a.In
 refine DM KI IA mf M.type (wpAny_call ?_)
 refine codeAny_call_generator z.a.room.rl (KI _ _ ho) hd Gi.co Gi.gen Gi.body (codeRec_of KI Gi.code) (bind s1 (.ref (W1.ρ l)) KI _ _ _ _ ?_)
 rw[Gi.clo,Gi.glob,Gi.blt]
 simp only[newFunctionEnv,Option.isSome_none,Bool.false_eq_true,if_false]
 have rm1:Room (ng+3) A.in1:=Room.in1 (z.a.room.less (A5 (Nat.le_succ _) hng))
 have y0:=z1.a.rel.alloc (o:=.fr []) (ob:=⟨.type "frame",none,.dict #[],#[]⟩) (.mk "frame" [] 0 rfl)
 have L0:Lat W1 hp1 s1 _ _ {s1 with heap:=_}:=.of (t:=s1.toks) y0.2
 refine wpAny_bind (wpAny_alloc (wpAny_bind (wpAny_with_toks (n:=s1.toks) (A7 _) (wpAny_mono (E:=no) (jN (c:=c) (A:=A.in1) _ (λname kind cells=>rfl) fd.scope.names [] [] (hp1++[.fr []]) _ {s1 with heap:=s1.heap.push ⟨.type "frame",none,.dict #[],#[]⟩} y0.1 (λx l e=>nomatch e)
  λW2 ca s2 Rr L2 C2 t2=>?_) (λ_ _ q=>q) λ_ _ f=>f.elim))))
 rw[Gi.names,Gi.cells]at Rr L2 C2
 have ge:EnvG W2 s2.heap hp1.length gs {scope:=fd.scope,locals:=s1.heap.objs.size,globals:=mainGlobals,cells:=ca,qual:=fd.qualname++Str.ofString ".<locals>.",func:=some fa,code:=fd.code,frame:=some s1.heap.objs.size,builtins:=builtinsNs}:=
  ⟨(FrAt.new Gi.kind rfl z1.a.old).ext L2.e,⟨A6 (by rw[y0.1.len,A2];exact Nat.lt_succ_self _) L2.le.n,((L2.le.ρ _ (by rw[y0.1.len,A2];exact Nat.lt_succ_self _)).trans (z1.a.rel.push_at _)).symm,C2,Gi.kind,rfl,rfl⟩,Gi.names,Gi.co⟩
 generalize ({scope:=fd.scope,locals:=s1.heap.objs.size,globals:=mainGlobals,cells:=ca,qual:=fd.qualname++Str.ofString ".<locals>.",func:=some fa,code:=fd.code,frame:=some s1.heap.objs.size,builtins:=builtinsNs}:Env)=genv at ge
 have L02:Lat _ _ s1 W2 (hp1++[O.fr []]) s2:=L0.trans L2
 refine wpAny_bind (wpAny_with_toks (n:=s2.toks) (A7 _) (wpAny_mono (E:=no) (qY (c:=c) (sc:=gs) (hp2:=hp1++[.fr [(fK,.ref l)]]) _ (λ_ _ _=>rfl) [fK] [.ref l] [.ref (W1.ρ l)] _ W2 s2 ⟨(z1.a.next L02 Rr t2).to rm1 (z1.a.fs.ext L02.e).in1,ge.f,ge.n,λq=>Bool.noConfusion q⟩ (R2.one (VR.mono L02.le ⟨x1.1,rfl⟩)) (λx m=>by rw[List.mem_singleton.mp m];show genv.scope.names.lookup _=_;rw[ge.n];exact Gi.self) (Am hp1 l)
  λW3 s3 z3 L3 t3=>wpAny_pure ⟨z3.a.nolimit,Ao (X:=X) z rm1 z3 (L1.trans (L02.trans L3)) (ge.fe.ext L3.e) ge.co rfl rfl (λe=>⟨_,_,_,e,rfl,rfl,rfl⟩) rfl rfl rfl (Nat.succ_pos _) h0 h λW5 s' r L=>.mk W5 r L rfl⟩) (λ_ _ q=>q) λ_ _ f=>f.elim))
end
end
section
noncomputable def p7:aH→Nm→Option NameKind
 | [],_=>none
 |p::r,x=>match nb p.1.cps.toList x with
  |true=>some p.2
  |false=>p7 r x
theorem DP (x:Nm):∀ sc:aH,p7 sc x=sc.lookup (st x)
 | []=>rfl
 |p::r=>by
  show(bif nb p.1.cps.toList x then some p.2 else p7 r x)=_
  rw[List.lookup_cons,← DP x r]
  cases e:nb p.1.cps.toList x with
  |true=>rw[← b9 e,aI,beq_self_eq_true];rfl
  |false=>rw[beq_eq_false_iff_ne.mpr λq:st x=p.1=>pN e (by rw[← q];rfl)];rfl
theorem d5 {sc:aH}{q:Str}{k:NameKind}(h:p7 sc q.cps.toList=some k):sc.lookup q=some k:=by rw[DP,aI]at h;exact h
noncomputable def Sr:Nm:=[95,95,100,101,98,117,103,95,95]
noncomputable def Xo:Nm:=[95,95,99,108,97,115,115,100,105,99,116,95,95]
noncomputable def OT:Nm:=[114,101,112,108,97,99,101]
theorem OU:st Sr=("__debug__" :Str):=by decide+kernel
theorem Ss:st Xo=("__classdict__" :Str):=by decide+kernel
theorem OV:st OT=("replace" :Str):=by decide+kernel
theorem MK {q:Str}{x:Nm}{y:Str}(e:st x=y)(h:nb q.cps.toList x=false):(q==y)=false:=beq_eq_false_iff_ne.mpr λw=>pN h (by rw[w,← e];rfl)
theorem Su {q:Str}{x:Nm}{y:Str}(e:st x=y)(h:nb q.cps.toList x=true):q=y:=by rw[← e,← b9 h,aI]
noncomputable def nH (r:Expr):Bool:=Nat.beq r.ctorIdx 23||(Nat.beq r.ctorIdx 20||(Nat.beq r.ctorIdx 19||(Nat.beq r.ctorIdx 21)))
theorem iB {r:Expr}(h:nH r=true)(name:Str)(env:Env)(wh:Sem Value):attributeBase r name env wh=wh:=
 (A1 h).elim (λh=>Expr.Name.elim (motive_1:=λr=>attributeBase r name env wh=wh) r (B0 h) λ_ _=>rfl) λh=>(A1 h).elim (λh=>Expr.Attribute.elim (motive_1:=λr=>attributeBase r name env wh=wh) r (B0 h) λ_ _ _=>rfl) λh=>(A1 h).elim (λh=>Expr.Constant.elim (motive_1:=λr=>attributeBase r name env wh=wh) r (B0 h) λ_ _ _=>rfl) λh=>Expr.Subscript.elim (motive_1:=λr=>attributeBase r name env wh=wh) r (B0 h) λ_ _ _=>rfl
noncomputable def yO (r:Expr):Bool:=Nat.beq r.ctorIdx 23
theorem DQ {g:Expr}{rs:List Expr}{pos:Pos}(h:yO g=true):eval (.Call g rs [] pos)=λenv=>(do callWith pos (← eval g env) [] (backTo pos (starEach rs env)) (backToKw pos (keywordEach [] env))):=
 Expr.Name.elim (motive_1:=λg=>eval (.Call g rs [] pos)=λenv=>(do callWith pos (← eval g env) [] (backTo pos (starEach rs env)) (backToKw pos (keywordEach [] env)))) g (B0 h) λ_ _=>rfl
noncomputable def k6 (r:Expr):Bool:=Nat.beq r.ctorIdx 23||(Nat.beq r.ctorIdx 16||(Nat.beq r.ctorIdx 21||(Nat.beq r.ctorIdx 20||(Nat.beq r.ctorIdx 25))))
theorem d6 {r:Expr}(h:k6 r=true)(env:Env)(x:Value):foldedSetIterable r env x=pure x:=
 (A1 h).elim (λh=>Expr.Name.elim (motive_1:=λr=>foldedSetIterable r env x=pure x) r (B0 h) λ_ _=>rfl) λh=>(A1 h).elim (λh=>Expr.Call.elim (motive_1:=λr=>foldedSetIterable r env x=pure x) r (B0 h) λ_ _ _ _=>rfl) λh=>(A1 h).elim (λh=>Expr.Subscript.elim (motive_1:=λr=>foldedSetIterable r env x=pure x) r (B0 h) λ_ _ _=>rfl) λh=>(A1 h).elim (λh=>Expr.Attribute.elim (motive_1:=λr=>foldedSetIterable r env x=pure x) r (B0 h) λ_ _ _=>rfl) λh=>Expr.Tuple.elim (motive_1:=λr=>foldedSetIterable r env x=pure x) r (B0 h) λ_ _ _=>rfl
noncomputable def Sv (r:Expr):Bool:=Nat.beq r.ctorIdx 23||(Nat.beq r.ctorIdx 20||(Nat.beq r.ctorIdx 16||(Nat.beq r.ctorIdx 21||(Nat.beq r.ctorIdx 2))))
theorem Ie {r:Expr}(h:Sv r=true)(env:Env)(whole:Sem Value):PySem.isTrue r env whole=(do let v ← whole;standAt r.pos;holding [v] (truthy v)):=
 (A1 h).elim (λh=>Expr.Name.elim (motive_1:=λr=>PySem.isTrue r env whole=(do let v ← whole;standAt r.pos;holding [v] (truthy v))) r (B0 h) λ_ _=>rfl) λh=>(A1 h).elim (λh=>Expr.Attribute.elim (motive_1:=λr=>PySem.isTrue r env whole=(do let v ← whole;standAt r.pos;holding [v] (truthy v))) r (B0 h) λ_ _ _=>rfl) λh=>(A1 h).elim (λh=>Expr.Call.elim (motive_1:=λr=>PySem.isTrue r env whole=(do let v ← whole;standAt r.pos;holding [v] (truthy v))) r (B0 h) λ_ _ _ _=>rfl) λh=>(A1 h).elim (λh=>Expr.Subscript.elim (motive_1:=λr=>PySem.isTrue r env whole=(do let v ← whole;standAt r.pos;holding [v] (truthy v))) r (B0 h) λ_ _ _=>rfl) λh=>Expr.BinOp.elim (motive_1:=λr=>PySem.isTrue r env whole=(do let v ← whole;standAt r.pos;holding [v] (truthy v))) r (B0 h) λ_ _ _ _=>rfl
noncomputable def ML:NameKind→Bool
 |.local=>true
 |_=>false
theorem DS {k:NameKind}(h:k=.local):ML k=true:=h▸rfl
noncomputable def cQ:Option NameKind→Bool
 |some .local=>true
 |_=>false
theorem cX {k:Option NameKind}(h:cQ k=true):k=some .local:=by
 cases k with
 |none=>cases h
 |some k=>cases k with
  | «local» =>rfl
  |_=>cases h
noncomputable def isFn:ScopeKind→Bool
 |.function=>true
 |_=>false
theorem Ig {k:ScopeKind}(h:isFn k=true):k=.function:=by
 cases k with
 |function=>rfl
 |_=>cases h
noncomputable def Sw:List Nm→Bool
 | []=>true
 |_=>false
theorem Ih:∀ {l:List Nm},Sw l=true→l=[]
 | [],_=>rfl
noncomputable def OW (scope:Scope)(ri:Expr)(cs:List (Nm×Nat)):Bool:=isFn scope.kind&&(Sw (cS scope.names)&&(((cC scope.names).all λx=>(lk cs x).isSome)&&((scope.names.all λx=> !ML x.2||cQ (p7 scope.names x.1.cps.toList))&&k6 ri)))
theorem mP {scope:Scope}{ri:Expr}{cs:List (Nm×Nat)}(h:OW scope ri cs=true):ComOk scope ri cs:=
 have h:=A0 h
 have h2:=A0 h.2
 have h3:=A0 h2.2
 have h4:=A0 h3.2
 ⟨Ig h.1,Ih h2.1,h3.1,λx m e=>by
  have q:=List.all_eq_true.mp h4.1 x m
  rw[DS e]at q
  exact d5 (cX q),d6 h4.2⟩
inductive StIs (sc:aH) (g r:Expr):Type where
 |plain (h:∀ env,env.scope.kind=.function→env.scope.names=sc→swappedStores [g] r env=pure none)
 |no
theorem Ii {ts vs:List Expr}{k k':Nat}{p p':Pos}(e:vs.all (foldedForSure 8)=true)(env:Env):swappedStores [.Tuple ts k p] (.Tuple vs k' p') env=pure none:=by
 unfold swappedStores
 dsimp only
 rw[e]
 split
 ·rfl
 ·split
  ·rfl
  ·split
   ·rfl
   ·rfl
noncomputable def Sx (sc:aH)(ts:List Expr)(k:Nat)(p:Pos)(r:Expr):StIs sc (.Tuple ts k p) r:=
 sU (P:=λr=>StIs sc (.Tuple ts k p) r) r (λr=>Sc (P:=λr=>StIs sc (.Tuple ts k p) r) r (λr=>iT (P:=λr=>StIs sc (.Tuple ts k p) r) r (λr=>pV (P:=λr=>StIs sc (.Tuple ts k p) r) r (λr=>xV (P:=λr=>StIs sc (.Tuple ts k p) r) r (λ_=>.no)
  λ_ _ _=>.plain λ_ _ _=>rfl) λ_ _ _=>.plain λ_ _ _=>rfl) λ_ _=>.plain λ_ _ _=>rfl) λ_ _ _ _=>.plain λ_ _ _=>rfl)
  λvs _ _=>match e:vs.all (foldedForSure 8)with
   |true=>.plain λenv _ _=>Ii e env
   |false=>.no
noncomputable def Xp (sc:aH)(g r:Expr):StIs sc g r:=
 iT (P:=λg=>StIs sc g r) g (λg=>pV (P:=λg=>StIs sc g r) g (λg=>xV (P:=λg=>StIs sc g r) g (λg=>sU (P:=λg=>StIs sc g r) g (λ_=>.no)
  λts k p=>Sx sc ts k p r) λ_ _ _=>.plain λ_ _ _=>rfl) λ_ _ _=>.plain λ_ _ _=>rfl) λ_ _=>.plain λ_ _ _=>rfl
section
variable {c:Cx}{sc:aH}{n:Nat}{F:Fx}{hp hp1 hp2 hp3:List O}{a b:Str}{pa pb p p' pos:Pos}{k k':Nat}{x y:Expr}{v:V}{v1 v2:V}
noncomputable def vV (env:Env)(sc:aH):Env:={env with scope:={env.scope with kind:=.function,names:=sc}}
noncomputable def Ij (sc:aH)(t:Stmt)(env:Env):Sem (Option (List Str)):=swappedStores (sT t).1 (sT t).2.1 (vV env sc)
noncomputable def Sy (a b:Str):Env→Sem (Option (List Str)):=λ_=>pure (some [a,b])
theorem tE (hk:sc.lookup a=some .local)(e:e7 F a.cps.toList v hp=some hp1){A:Around}{W:Wd}{s:Shared}{env:Env}{u:Value}(z:AtF c sc n F hp A W s env)(hv:VR c.P W v u):c.wp A (bindName env a u) (Post c qT W hp s () hp1) s:=
 wpAny_bindName (by have:=qV (x:=a.cps.toList) z (by rw[aI];unfold Env.kindOf;rw[z.sc];exact hk) hv e;rwa [aI]at this)
theorem OX (ha:cQ (p7 sc a.cps.toList)=true)(hb:cQ (p7 sc b.cps.toList)=true)(h:Ij sc (.Assign [.Tuple [.Name a pa,.Name b pb] k p] (.Tuple [x,y] k' p') pos)=Sy a b)(h1:RE c sc n F hp (.Tuple [x,y] k' p') v hp1)(e:dK v hp1=some [v1,v2])(t1:e7 F b.cps.toList v2 hp1=some hp2)(t2:e7 F a.cps.toList v1 hp2=some hp3):
  RS c sc n F hp (.Assign [.Tuple [.Name a pa,.Name b pb] k p] (.Tuple [x,y] k' p') pos) .next hp3:=λA W s env z=>by
 have he:vV env sc=env:=by unfold vV;rw[← z.f.kind,← z.sc]
 have hq:swappedStores [.Tuple [.Name a pa,.Name b pb] k p] (.Tuple [x,y] k' p') (vV env sc)=pure (some [a,b]):=congrFun h env
 rw[he]at hq
 refine PyProof.Rows.Assign_Tuple_swapped (names:=[a,b]) (h1.go z λW1 u s1 z1 L1 x1=>?_) (gJ (r:=.Tuple [x,y] k' p') rfl (some (.Tuple [.Name a pa,.Name b pb] k p)) pos.line env) hq
 match u,cM z1.a.rel x1 e with
 |_,.mk l us m I d=>
  obtain⟨u1,u2,rfl,d1,d2⟩:=gH d
  refine PyProof.Rows.unpackItems_tuple z.a.room.hd (items:=#[u1,u2]) ⟨_,I,rfl,m,rfl⟩ λh' sb=>?_
  have q:=strange z1.a λb o ne e=>sb b o ne e
  have z2:=z1.next q.2 (z1.a.next q.2 q.1 (A7 _))
  show wpAny _ A (do holding [u1] (bindName env b u2);assignInOrder [bindName env a] [u1]) _ _ _
  refine bK (wpAny_holding (go z2.a (tE (d5 (cX hb)) t1 z2 d2) λW2 _ s2 a2 L2 _=>?_))
  show wpAny _ A (do holding [] (bindName env a u1);assignInOrder [] []) _ _ _
  refine bK (wpAny_holding (go a2 (tE (d5 (cX ha)) t2 (z2.next L2 a2) (d1.mono L2.le)) λW3 _ s3 a3 L3 _=>?_))
  exact wpAny_pure (.last (t:=s3.toks) a3 ((L1.trans q.2).trans (L2.trans L3)) rfl)
section
variable {d:Str}{pd:Pos}{w:Expr}{v3:V}{hp4:List O}
noncomputable def MM (a b d:Str):Env→Sem (Option (List Str)):=λ_=>pure (some [a,b,d])
theorem Ap {α β:Type}{R:α→β→Prop}{x y z:α}{us:List β}:R2 R [x,y,z] us→∃ u v w,us=[u,v,w]∧R x u∧R y v∧R z w
 |.mk a r=>(gH r).elim λv q=>q.elim λw q=>⟨_,v,w,by rw[q.1],a,q.2⟩
theorem OY (ha:cQ (p7 sc a.cps.toList)=true)(hb:cQ (p7 sc b.cps.toList)=true)(hd:cQ (p7 sc d.cps.toList)=true)(h:Ij sc (.Assign [.Tuple [.Name a pa,.Name b pb,.Name d pd] k p] (.Tuple [x,y,w] k' p') pos)=MM a b d)(h1:RE c sc n F hp (.Tuple [x,y,w] k' p') v hp1)(e:dK v hp1=some [v1,v2,v3])
  (t1:e7 F d.cps.toList v3 hp1=some hp2)(t2:e7 F b.cps.toList v2 hp2=some hp3)(t3:e7 F a.cps.toList v1 hp3=some hp4):RS c sc n F hp (.Assign [.Tuple [.Name a pa,.Name b pb,.Name d pd] k p] (.Tuple [x,y,w] k' p') pos) .next hp4:=λA W s env z=>by
 have he:vV env sc=env:=by unfold vV;rw[← z.f.kind,← z.sc]
 have hq:swappedStores [.Tuple [.Name a pa,.Name b pb,.Name d pd] k p] (.Tuple [x,y,w] k' p') (vV env sc)=pure (some [a,b,d]):=congrFun h env
 rw[he]at hq
 refine PyProof.Rows.Assign_Tuple_swapped (names:=[a,b,d]) (h1.go z λW1 u s1 z1 L1 x1=>?_) (gJ (r:=.Tuple [x,y,w] k' p') rfl (some (.Tuple [.Name a pa,.Name b pb,.Name d pd] k p)) pos.line env) hq
 match u,cM z1.a.rel x1 e with
 |_,.mk l us m I dd=>
  obtain⟨u1,u2,u3,rfl,d1,d2,d3⟩:=Ap dd
  refine PyProof.Rows.unpackItems_tuple z.a.room.hd (items:=#[u1,u2,u3]) ⟨_,I,rfl,m,rfl⟩ λh' sb=>?_
  have q:=strange z1.a λb o ne e=>sb b o ne e
  have z2:=z1.next q.2 (z1.a.next q.2 q.1 (A7 _))
  show wpAny _ A (do holding [u2,u1] (bindName env d u3);assignInOrder [bindName env b,bindName env a] [u2,u1]) _ _ _
  refine bK (wpAny_holding (go z2.a (tE (d5 (cX hd)) t1 z2 d3) λW2 _ s2 a2 L2 _=>?_))
  have z3:=z2.next L2 a2
  show wpAny _ A (do holding [u1] (bindName env b u2);assignInOrder [bindName env a] [u1]) _ _ _
  refine bK (wpAny_holding (go z3.a (tE (d5 (cX hb)) t2 z3 (d2.mono L2.le)) λW3 _ s3 a3 L3 _=>?_))
  show wpAny _ A (do holding [] (bindName env a u1);assignInOrder [] []) _ _ _
  refine bK (wpAny_holding (go a3 (tE (d5 (cX ha)) t3 (z3.next L3 a3) (d1.mono (L2.trans L3).le)) λW4 _ s4 a4 L4 _=>?_))
  exact wpAny_pure (.last (t:=s4.toks) a4 ((L1.trans q.2).trans ((L2.trans L3).trans L4)) rfl)
end
end
end
section
open PySem PySem.W PyProof.Rows PySem.Calls PySem.NumText
noncomputable def Xq:List V→Option (Nm×V)
 | [v,x]=>v.strE.map λk=>(k,x)
 |_=>none
noncomputable def iV (hp:List O):List V→Option (List (Nm×V))
 | []=>some []
 |v::r=>((items v hp).bind Xq).bind λp=>(iV hp r).map (p::·)
theorem Ik {p:Nm×V}{xs:List V}(h:Xq xs=some p):∃ v,xs=[v,p.2]∧v.strE=some p.1:=by
 cases xs with
 |nil=>cases h
 |cons v r=>cases r with
  |nil=>cases h
  |cons x r=>cases r with
   |nil=>obtain⟨_,e,q⟩:=bA h;exact⟨v,q▸rfl,q▸e⟩
   |cons _ _=>cases h
noncomputable def hI:List (Nm×V)→List (Nm×V)→List (Nm×V)
 |es,[]=>es
 |es,(k,x)::r=>hI (pt es k x) r
theorem Il:typeLookup (.type "list") "keys" =pure none:=by rw[typeLookup_type,builtinLookup_eq_fast];kernel_rfl
section
variable {c:Cx}{A:Around}{W W0:Wd}{hp hp0:List O}{s s0:Shared}{n:Nat}
theorem Aq {a:Addr}{xs:Array Value}{k:Nat}{Q:Option Value→Shared→Prop}(hx:s.heap.get? a=some ⟨.type "list",none,.seq xs k,#[]⟩)(hA:A.handled=none)
  (h:∀ h' tk,(∀ b o,s.heap.get? b=some o→h'.get? b=some o)→Q none {s with heap:=h',toks:=tk}):c.wp A (getAttr? (.ref a) "keys") Q s:=by
 obtain⟨hp,g,d,tk,os⟩:=s
 have hT:∀ tk',(⟨hp,g,d,tk',os⟩:Shared).TypeIs (.ref a) "list" :=λ_=>⟨_,hx,rfl⟩
 have f1:=sub_AttributeError
 have f3:=F.slot_list_getattribute.lookup
 have f4:=F.slot_list_getattribute.bind (.ref a)
 have f5:=am_list_getattr_none
 have hmiss:=Il
 unfold getAttr? getAttrBy? getAttrBy
 repeat (any_goals (first|assumption|exact hT _|((with_reducible show wpAny _ _ (call (Value.builtin "list.__getattribute__") _ _) _ _ _);refine call_meets F.slot_list_getattribute (hT _) am_entry_list_getattribute (F.args_list_getattribute_2 _ _) (meets_getattribute_miss_list a xs k #[] _ _ hmiss (by decide+kernel) (by decide)) ⟨hx,hA,λh' tk' e hx'=>?_⟩)|wp_step))
 obtain⟨t',u',he⟩:=hx'.there
 show wpAny _ _ (getattributeRaised _ _ _ _ _ _ _) _ _ _
 unfold getattributeRaised
 repeat (any_goals (first|assumption|wp_step))
 exact h _ _ hx'.keeps
theorem OZ {l:Nat}{es:List (Nm×V)}{y:Nm}{t:Tok}{x:V}{z:Value}{Q:Unit→Shared→Prop}(R:Rel c.P W hp s.heap)(lv:Lv hp l (.ns es))(hx:VR c.P W x z)(hz:es.length≤100)
  (h:∀ h',Rel c.P W (hp.set l (.ns (pt es y x))) h'→Ext W hp s.heap W (hp.set l (.ns (pt es y x))) h'→(∀ b o,b≠W.ρ l→s.heap.get? b=some o→h'.get? b=some o)→Q () {s with heap:=h',toks:=s.toks+1}):
  c.wp A (dictSet (W.ρ l) (.str (st y) t) z) Q s:=by
 rcases R.ns lv with⟨en,k,gd,E,nd⟩
 exact(ER.rows E).elim λks r=>by
  refine wpAny_dictSet_pairs (knd:=SK c) (beq_self_eq_true _:Value.isStrOf (st y) (.str (st y) t)=true) ⟨_,_,k,gd,⟨rfl,rfl,rfl⟩,rfl,E.keysOf,r.2,by rw[KR.keys r.1];exact g9 nd⟩ (λh' d' sb=>?_) (by rw[R2.len r.1];exact A5 hz (by decide))
  have q:=R.change (o':=.ns (pt es y x)) lv (λb ne=>sb.2 b ne) (kS d' (hZ hx r.1 nd) (g6 y x nd)) (R.nof lv λ_=>nofun)
  exact h h' q.1 q.2 λb o ne e=>(sb.2 b ne).trans e
theorem p8 {v:V}{l:Nat}{es es':List (Nm×V)}(lv:Lv hp l (.ns es)):items v (hp.set l (.ns es'))=items v hp:=by
 cases v with
 |dat d=>cases d <;>rfl
 |ref k=>
  unfold items
  by_cases q:k=l
  ·subst q
   dsimp only
   rw[List.getElem?_set_self lv.lt,lv.e];rfl
  ·dsimp only
   rw[List.getElem?_set_ne (Ne.symm q)]
 |_=>rfl
theorem p9 {l:Nat}{es es':List (Nm×V)}(lv:Lv hp l (.ns es)):∀ r:List V,iV (hp.set l (.ns es')) r=iV hp r
 | []=>rfl
 |v::r=>by show((items v (hp.set l (.ns es'))).bind Xq).bind (λp=>(iV (hp.set l (.ns es')) r).map (p::·))=_;rw[p8 lv,p9 lv r];rfl
theorem d7:plainId "dict.update.loop" =true:=by decide+kernel
theorem hJ:entryFor table "dict.update.loop" =some Builtin.«dict.update.loop» :=entryFor_of_tree (by kernel_rfl)
theorem DT {l:Nat}{o:O}(lv:Lv hp l o):hp.set l o=hp:=by
 obtain⟨q,e⟩:=List.getElem?_eq_some_iff.mp lv.e
 rw[← e];exact List.set_getElem_self q
theorem DU {l it a:Nat}{v:V}{xs:List V}{res:Value}{F:Result→Shared→Prop}(hh:A.handled=none)(n0:s0.heap.get? it=none)(nz:W.fz it=none)(ne:it≠W.ρ l)(hv:VR c.P W v (.ref a)):
  ∀ (r:List V) (k:Nat) (es ps:List (Nm×V)) (hp:List O) (s:Shared),Rel c.P W hp s.heap→Lat W0 hp0 s0 W hp s→s.heap.IsListIter it a k→¬ Live W hp it→Lv hp l (.ns es)→items v hp=some xs→xs.drop k=r→iV hp r=some ps→es.length+r.length≤100→
   (∀ s',Rel c.P W (hp.set l (.ns (hI es ps))) s'.heap→Lat W0 hp0 s0 W (hp.set l (.ns (hI es ps))) s'→F (.ok (.ret res)) s')→codeAny c.M A (.builtin "dict.update.loop" ⟨[.ref (W.ρ l),.ref it,rawInt k,res],[]⟩) F s:=by
 intro r
 induction r with
 |nil=>
  intro k es ps hp s R L I nl lv ei ed ep hz hF
  cases ep
  refine codeAny_builtin hJ ?_
  rw[Around.under_plainId d7 _]
  show wpAny _ A.in1 (pyNext (.ref it) >>= _) _ _ s
  match aP R hv ei with
  |.mk _ us n I2 dd=>
   refine wpAny_bind (wpAny_pyNext_list_end (items:=us.toArray) (show A.in1.handled=none from hh) I ⟨_,I2,rfl,n,rfl⟩ ?_ λh' sb=>?_)
   ·rw[List.getElem?_toArray,List.getElem?_eq_none_iff,R2.len dd]
    exact List.drop_eq_nil_iff.mp ed
   ·have kp:eI it s.heap h':=λb o q e=>sb b o q e
    rw[show hp.set l (.ns (hI es []))=hp from DT lv]at hF
    exact wpAny_pure (hF _ (R.poke nl nz kp) ⟨L.e.poke n0 kp,L.g,L.o⟩)
 |cons x r ih=>
  intro k es ps hp s R L I nl lv ei ed ep hz hF
  obtain⟨⟨y,xv⟩,h1,h2⟩:=aK ep
  obtain⟨ps',er,e1⟩:=bA h2
  obtain⟨x2,ex,e2⟩:=aK h1
  obtain⟨yv,e3,e4⟩:=Ik e2
  cases e3
  cases e1
  have at_:xs[k]? =some x:=by
   have:=congrArg (·[0]?) ed
   simpa using this
  refine codeAny_builtin hJ ?_
  rw[Around.under_plainId d7 _]
  show wpAny _ A.in1 (pyNext (.ref it) >>= _) _ _ s
  match aP R hv ei with
  |.mk _ us n I2 dd=>
  obtain⟨u,hu,hxu⟩:=R2.at dd at_
  refine wpAny_bind (wpAny_pyNext_list_item (items:=us.toArray) I ⟨_,I2,rfl,n,rfl⟩ ((List.getElem?_toArray ..).trans hu) λh' I' sb=>?_)
  have kp:eI it s.heap h':=b6 sb
  have R1:=R.poke nl nz kp
  have L1:Lat W0 hp0 s0 W hp {s with heap:=h'}:=⟨L.e.poke n0 kp,L.g,L.o⟩
  match u,aP R1 hxu ex with
  |_,.mk a2 us2 n2 I3 d3=>
  obtain⟨ku,vu,rfl,hk,hvu⟩:=gH d3
  obtain⟨kt,rfl⟩:=eX e4 hk
  refine wpAny_bind (wpAny_holding ?_)
  refine wpAny_bind (wpAny_tryCatch ?_)
  unfold Builtin.Dict.pairItems
  refine wpAny_bind (wpAny_typeOf (s:={s with heap:=h'}) (⟨_,I3,rfl⟩:Shared.TypeIs {s with heap:=h'} (.ref a2) "list") ?_)
  dsimp only
  rw[if_pos (by decide)]
  refine wpAny_bind (wpAny_seqItems (s:={s with heap:=h'}) I3 rfl (wpAny_pure ?_))
  dsimp only[Option.getD_some]
  have hz2:es.length+(r.length+1)≤100:=by simpa using hz
  refine wpAny_holding (wpAny_mono (OZ (s:={s with heap:=h'}) R1 lv hvu (by lia) λh2 R2 E2 kd=>?_) (λ_ _ x=>x) λ_ _ f=>f.elim)
  have lv2:Lv (hp.set l (.ns (pt es y xv))) l (.ns (pt es y xv)):=⟨List.getElem?_set_self lv.lt,rfl⟩
  refine wpAny_pure ⟨plainId_quiet d7 _,?_⟩
  obtain⟨o,o1,o2,o3⟩:=I'
  have pl:=u0 y xv es
  have L2:Lat W0 hp0 s0 W (hp.set l (.ns (pt es y xv))) ⟨h2,s.gens,s.drawn,s.toks+1,s.os⟩:=L1.trans (s':={s with heap:=h'}) ⟨E2,.refl _,rfl⟩
  refine ih (k+1) (pt es y xv) ps' _ _ R2 L2 ⟨o,kd _ _ ne o1,o2,o3⟩ (λq=>nl ?_) lv2 (by rw[p8 lv];exact ei) (by rw[← List.drop_drop,ed];rfl) (by rw[p9 lv];exact er) (by lia) λs' R' L'=>hF s' ?_ ?_
  ·match q with
   |.mk l' o' v' e'=>match v'.set with
    |.inl ⟨q1,_⟩=>exact absurd (q1▸e').symm ne
    |.inr ⟨_,v2⟩=>exact .mk l' o' v2 e'
  ·rw[List.set_set]at R';exact R'
  ·rw[List.set_set]at L';exact L'
theorem DV {h':Heap}(R:Rel c.P W hp s.heap)(kp:∀ b o,s.heap.get? b=some o→h'.get? b=some o):Rel c.P W hp h'∧Ext W hp s.heap W hp h':=
 ⟨R.poke R.new_live R.new_cold λb o _ e=>kp b o e,(Ext.refl W hp s.heap).poke (d4 s.heap) λb o _ e=>kp b o e⟩
theorem DW {id:String}{l:Nat}{v:V}{u res:Value}{xs:List V}{es ps:List (Nm×V)}{F:Result→Shared→Prop}{E0:Value→Shared→Prop}(hh:A.handled=none)(B:Around)(hB:B.handled=none)(R:Rel c.P W hp s.heap)(lv:Lv hp l (.ns es))(hv:VR c.P W v u)(ei:items v hp=some xs)(ep:iV hp xs=some ps)(hz:es.length+xs.length≤100)
  (hF:∀ s',Rel c.P W (hp.set l (.ns (hI es ps))) s'.heap→Lat W hp s W (hp.set l (.ns (hI es ps))) s'→F (.ok (.ret res)) s'):
  wpAny c.M B (Builtin.Dict.updateFrom id (W.ρ l) u [] res) (λh9 s'=>match h9 with|.done f=>F (.ok f) s'|.again c'=>c'.quiet=true∧codeAny c.M A c' F s') E0 s:=by
 rcases aP R hv ei with⟨a,us,n,I,dd⟩
 exact by
  unfold Builtin.Dict.updateFrom
  refine wpAny_bind (wpAny_typeOf (⟨_,I,rfl⟩:s.TypeIs (.ref a) "list") ?_)
  rw[if_pos (by decide)]
  refine wpAny_bind (wpAny_mono (Aq I hB λh1 tk kp=>?_) (λ_ _ x=>x) λ_ _ f=>f.elim)
  have R1:=DV R kp
  simp only[Option.isNone_none,if_true]
  refine wpAny_bind (wpAny_rule ?_)
  refine wpAny_bind (wpAny_pyIter_list (s:={s with heap:=h1,toks:=tk}) (items:=us.toArray) ⟨_,kp _ _ I,rfl,n,rfl⟩ ?_)
  have z:=R1.1.strange (ob:={cls:=.type "list_iterator",data:=.fields #[.ref a,.int 0 0]})
  have nn:s.heap.get? h1.objs.size=none:=hH R1.2 (d4 h1)
  have ne:h1.objs.size≠W.ρ l:=λq=>R1.1.new_live (.mk l _ lv q.symm)
  refine wpAny_pure ⟨plainId_quiet d7 _,?_⟩
  exact DU (W0:=W) (hp0:=hp) (s0:=s) (xs:=xs) hh nn R1.1.new_cold ne hv xs 0 es ps hp _ z.1 ⟨R1.2.trans z.2,.refl _,rfl⟩ ⟨_,Heap.get?_push_size _ rfl,rfl,rfl⟩ (λq=>R1.1.new_live ((by rcases q with⟨l,o,v,e⟩;exact .mk l o v e))) lv ei rfl ep hz hF
theorem qA {v:V}{xs:List V}{o:O}(h:items v hp=some xs):items v (hp++[o])=some xs:=by
 cases v with
 |dat d=>cases d <;>exact h
 |ref k=>
  obtain⟨q,h1,h2⟩:=aK (h:hp[k]?.bind O.lsE=some xs)
  show(hp++[o])[k]?.bind O.lsE=some xs
  rw[List.getElem?_append_left (List.getElem?_eq_some_iff.mp h1).1,h1]
  exact h2
 |_=>cases h
theorem qB {o:O}:∀ {r:List V} {ps:List (Nm×V)},iV hp r=some ps→iV (hp++[o]) r=some ps
 | [],_,h=>h
 |_::_,_,h=>match aK h with
  |⟨_,h1,h2⟩=>match aK h1,bA h2 with
   |⟨_,ix,e⟩,⟨_,er,e'⟩=>Option.bind_eq_some_iff.mpr ⟨_,Option.bind_eq_some_iff.mpr ⟨_,qA ix,e⟩,Option.map_eq_some_iff.mpr ⟨_,qB er,e'⟩⟩
theorem Oa {v:V}{xs:List V}{ps:List (Nm×V)}(ei:items v hp=some xs)(ep:iV hp xs=some ps)(hz:Nat.ble xs.length 100=true):TT c n hp "dict" [v] (.ref hp.length) (hp++[.ns (hI [] ps)]):=λA W s us z h=>(bZ h).elim λu q=>by
 have hv:=q.2
 rw[q.1]
 have y:=z.rel.alloc (o:=.ns []) (ob:={cls:=.type "dict",data:=.dict #[]}) ⟨List.nodup_nil,.mk [] 0 rfl⟩
 refine callType_codes (Q₁:=λobj s₁=>obj=.ref s.heap.objs.size∧s₁={s with heap:=s.heap.push {cls:=.type "dict",data:=.dict #[]}}) F.kt_called_dict (F.kt_typeCall_dict_1 _) F.entry_dict_init (kt_code_dict_new _ ⟨rfl,rfl⟩) ?_
 rintro obj s₁ ⟨rfl,rfl⟩
 have hT:Shared.TypeIs {s with heap:=s.heap.push {cls:=.type "dict",data:=.dict #[]}} (.ref s.heap.objs.size) "dict" :=⟨_,Heap.get?_push_size _ rfl,rfl⟩
 refine⟨hT,F.args_dict_init_2 _ _,?_⟩
 unfold Builtin.«dict.__init__»
 refine bK ?_
 unfold Builtin.Dict.selfAndRest
 refine bK (wpAny_notOrdered_dict hT ?_)
 show wpAny _ _ (pure (s.heap.objs.size,[u])) _ _ _
 refine wpAny_pure ?_
 show wpAny _ _ (Builtin.Dict.updateFrom "dict.__init__" s.heap.objs.size u [] .none) _ _ _
 have e2:(hp++[O.ns []]).set hp.length (.ns (hI [] ps))=hp++[.ns (hI [] ps)]:=by simp
 have lv:Lv (hp++[O.ns []]) hp.length (.ns []):=⟨List.getElem?_concat_length,rfl⟩
 have at_:=z.rel.push_at s.heap.objs.size
 have key:=DW (id:="dict.__init__") (res:=.none) (E0:=no) (A:=A.in1) (c:=c) (s:={s with heap:=s.heap.push {cls:=.type "dict",data:=.dict #[]}}) (F:=λr s'=>r=.ok (.ret .none)∧Post c c.VT W hp s (.ref hp.length) (hp++[.ns (hI [] ps)]) (.ref s.heap.objs.size) s') z.room.hd A.in1.in1 z.room.hd y.1 lv (hv.mono y.2.le) (qA ei) (qB ep) (by simpa using A3 hz)
  λs' R' L'=>⟨rfl,.mk _ (e2▸R') (Lat.trans (.of (t:=s.toks) y.2) (e2▸L')) ⟨z.rel.len▸Nat.lt_succ_self _,congrArg Value.ref at_.symm⟩⟩
 rw[at_]at key
 refine wpAny_mono key (λh9 s' h=>?_) λ_ _ f=>f
 cases h9 with
 |done f=>obtain⟨e1,p⟩:=h;cases e1;exact⟨rfl,p⟩
 |again c=>exact⟨h.1,codeAny_mono h.2 λr s' ⟨e1,p⟩=>by subst e1;exact⟨rfl,p⟩⟩
theorem yP {l:Nat}{es:List (Nm×V)}(z:At c n A W hp s)(lv:Lv hp l (.ns es)):(W.ρ l==sysModules)=false:=beq_eq_false_iff_ne.mpr λq=>(by rcases c.top.mods with⟨_,_,_,_,e,_⟩;exact(jK (z.kin _ _ e) (q▸z.rel.cold _ _ lv)).elim)
theorem Ob {l:Nat}{es:List (Nm×V)}(e:hp[l]?.bind O.nsE=some es)(g:Nat.ble es.length lim=true):vD c n hp (.blt "len") [.ref l] (.dat (.int es.length)) hp:=λA W s fv vals z hf hv=>(bZ hv).elim λu q=>by
 rw[show fv=.builtin "len" from hf,q.1,show u=.ref (W.ρ l)from q.2.2]
 refine⟨.blt _,?_⟩
 match z.rel.ns (fZ e)with
 |.mk en k gd E nd=>
  obtain⟨ks,r⟩:=ER.rows (c:=c) E
  rw[← R2.len r.1]
  exact call_len_dict (knd:=SK c) (yP z (fZ e)) ⟨_,_,k,gd,⟨rfl,rfl,rfl⟩,rfl,E.keysOf,r.2,by rw[KR.keys r.1];exact g9 nd⟩ (by rw[R2.len r.1];exact jP g) (.tok z (.mk _))
end
noncomputable def tF (b c:Nat):Option Nat:=match(if 48≤c∧c≤57 then some (c-48)else if 97≤c∧c≤122 then some (c-87)else if 65≤c∧c≤90 then some (c-55)else none)with
 |some d=>if d<b then some d else none
 |none=>none
noncomputable def hL (b:Nat):Nat→List Nat→Option Nat
 |n,[]=>some n
 |n,c::r=>match tF b c with
  |some d=>hL b (n*b+d) r
  |none=>none
noncomputable def fL (b:Nat)(x:List Nat):Option Nat:=hL b 0 x
set_option tactic.hygienic true in
theorem k7 {b c d:Nat}(h:tF b c=some d):digit? c=some d∧d<b∧48≤c∧c≤122∧c≠95:=by
 unfold tF at h
 unfold digit?
 simp only[Bool.and_eq_true,decide_eq_true_eq]
 split at h
 ·rename_i d' e
  split at h
  ·rename_i q
   cases h
   refine⟨e,q,?_⟩
   split at e
   ·lia
   ·split at e
    ·lia
    ·split at e
     ·lia
     ·cases e
  ·cases h
 ·cases h
set_option tactic.hygienic true in
theorem qC {b:Nat}:∀ (cs:List Nat) (n v:Nat) (ds:Array Nat) (fl:Bool),hL b n cs=some v→ds.foldl (λacc d=>acc*b+d) 0=n→
  ∃ ds',cs.foldlM (NumText.step b) (ds,fl)=some (ds',fl|| !cs.isEmpty)∧ds'.foldl (λacc d=>acc*b+d) 0=v∧ds'.size=ds.size+cs.length
 | [],n,v,ds,fl,h,e=>by
  cases h
  exact⟨ds,by simp,e,by simp⟩
 |c::cs,n,v,ds,fl,h,e=>by
  have h:(match tF b c with|some d=>hL b (n*b+d) cs|none=>none)=some v:=h
  split at h
  ·rename_i d hd
   obtain⟨h1,h2,h3,h4,h5⟩:=k7 hd
   have e1:(ds.push d).foldl (λacc d=>acc*b+d) 0=n*b+d:=by rw[← e];simp
   obtain⟨ds',g1,g2,g3⟩:=qC cs _ v (ds.push d) true h e1
   refine⟨ds',?_,g2,by rw[g3];simp;lia⟩
   rw[List.foldlM_cons]
   have s1:NumText.step b (ds,fl) c=some (ds.push d,true):=by
    unfold NumText.step
    rw[h1]
    simp[h5,h2]
   rw[s1]
   simpa using g1
  ·cases h
set_option tactic.hygienic true in
theorem Ar {b n v c:Nat}{cs:List Nat}(h:hL b n (c::cs)=some v):∃ d,tF b c=some d:=by
 have h:(match tF b c with|some d=>hL b (n*b+d) cs|none=>none)=some v:=h
 cases e:tF b c with
 |some d=>exact⟨d,rfl⟩
 |none=>rw[e]at h;cases h
set_option tactic.hygienic true in
theorem nI {b:Nat}:∀ {cs:List Nat} {n v:Nat},hL b n cs=some v→∀ c∈cs,∃ d,tF b c=some d
 | [],_,_,_,_,hc=>by cases hc
 |c::cs,n,v,h,x,hx=>by
  obtain⟨d,e⟩:=Ar h
  rcases List.mem_cons.mp hx with rfl|hx
  ·exact⟨d,e⟩
  ·have h:(match tF b c with|some d=>hL b (n*b+d) cs|none=>none)=some v:=h
   rw[e]at h
   exact nI h x hx
set_option tactic.hygienic true in
theorem vW {b v:Nat}{x:List Nat}(hb:b=10∨b=16)(h:fL b x=some v)(hx:x≠[])(hl:x.length≤640):
  (int_private% "readNumeral") 0 b x=(int_private% "Numeral.value") v:=by
 have all:=nI h
 have nb:∀ c∈x,blank c=false:=λc hc=>by
  obtain⟨d,e⟩:=all c hc
  have:=k7 e
  unfold blank
  simp only[Bool.or_eq_false_iff,beq_eq_false_iff_ne,Bool.and_eq_false_iff,decide_eq_false_iff_not]
  lia
 have drop:∀ l:List Nat,(∀ c∈l,blank c=false)→l.dropWhile blank=l:=λl hl=>by
  cases l with
  |nil=>rfl
  |cons c r=>rw[List.dropWhile_cons,if_neg (by rw[hl c List.mem_cons_self];simp)]
 have e1:x.dropWhile blank=x:=drop x nb
 have e2:(x.reverse.dropWhile blank).reverse=x:=by rw[drop _ λc hc=>nb c (List.mem_reverse.mp hc),List.reverse_reverse]
 have e3:sign x=(false,x):=by
  cases x with
  |nil=>rfl
  |cons c r=>
   obtain⟨d,e⟩:=all c List.mem_cons_self
   have:=k7 e
   unfold sign
   split
   ·rename_i q;cases q;lia
   ·rename_i q;cases q;lia
   ·rfl
 have e4:based b x=(b,false,x):=by
  unfold based
  split
  ·rename_i p hp
   have ne:p≠b:=by
    unfold prefix? at hp
    split at hp
    ·rename_i c r
     obtain⟨d,e⟩:=all c (by simp)
     have q:=k7 e
     split at hp
     ·rename_i hc
      exfalso
      unfold tF at e
      simp only[Bool.or_eq_true,beq_iff_eq]at hc
      rcases hc with rfl|rfl <;>rcases hb with rfl|rfl <;>cases e
     ·split at hp
      ·cases hp;rcases hb with rfl|rfl <;>decide
      ·split at hp
       ·cases hp;rcases hb with rfl|rfl <;>decide
       ·cases hp
    ·cases hp
   rw[if_neg]
   simp only[Bool.or_eq_true,beq_iff_eq,not_or]
   exact⟨by rcases hb with rfl|rfl <;>decide,λq=>ne q.symm⟩
  ·rw[if_neg (by rcases hb with rfl|rfl <;>decide)]
 rw[readNumeral_eq,e1,e3]
 dsimp only
 rw[e4]
 dsimp only
 rw[e2]
 obtain⟨ds,g1,g2,g3⟩:=qC x 0 v #[] false h rfl
 have g4:digits? b x=some ds:=by
  unfold digits?
  rw[g1]
  cases x with
  |nil=>exact absurd rfl hx
  |cons=>rfl
 rw[g4]
 unfold judge
 have g5:ds.size≤640:=by simp at g3;lia
 dsimp only
 rw[if_neg (by simp),if_neg (by simp;lia)]
 rw[g2]
 rfl
section
variable {prog:Program}{w:World}{A:Around}{E:Value→Shared→Prop}{s:Shared}{Q:Value→Shared→Prop}
theorem nJ (a b:Value):checkTypeCall "int" ⟨[a,b],[]⟩=pure ():=by kernel_rfl
theorem pF (a b:Value):checkBuiltinCall "int.__new__" ⟨[.type "int",a,b],[]⟩=pure ():=by kernel_rfl
theorem DX {M:Model}{v:Value}{text:List Nat}{n:Int}{b:Nat}
  (hs:(text.takeWhile (· !=0)).length≤640)(hr:(int_private% "readNumeral") 0 b (text.takeWhile (· !=0))=(int_private% "Numeral.value") n)
  (ha:((text.takeWhile (· !=0)).length==text.length)=true)(h:Q (.int n s.toks) {s with toks:=s.toks+1}):
  wpAny M A ((int_private% "intFromText") v text b) Q E s:=by
 obtain⟨hp,g,d,tk,os⟩:=s
 repeat (any_goals (first
  |assumption
  |(with_reducible refine wpAny_ite_true (decide_eq_true hs) ?_)
  |(with_reducible refine wpAny_ite_true (decide_eq_true ha) ?_)
  |wp_step))
 all_goals (try rw[hr])
 all_goals (try dsimp only)
 repeat (any_goals (first
  |assumption
  |(with_reducible refine wpAny_ite_true (decide_eq_true hs) ?_)
  |(with_reducible refine wpAny_ite_true (decide_eq_true ha) ?_)
  |wp_step))
set_option tactic.hygienic true in
theorem vX {x:List Nat}{u t:Tok}{v b:Nat}(hb:b=10∨b=16)(h:fL b x=some v)(hx:x≠[])(hl:x.length≤640):Gives (Builtin.«int.__new__» ⟨[.type "int",.str (st x) u,.int (b:Nat) t],[]⟩) (.int v):=
 .of_wp λM A E s Q hq=>by
  obtain⟨hp,g,d,tk,os⟩:=s
  have f1:=F.conv_sub_int
  have f2:=F.madeHere_int
  have f6:typeOf (.str (st x) u)=pure (.type "str"):=rfl
  have all:=nI h
  have asc:(st x).cps.all (· < 128)=true:=by
   rw[Array.all_eq_true']
   intro c hc
   obtain⟨d,e⟩:=all c (by simpa [st]using hc)
   have:=k7 e
   exact decide_eq_true (by lia)
  have et:numTextOf (st x)=x:=by
   unfold numTextOf
   rw[if_pos asc]
   simp[st]
  have tw:∀ l:List Nat,(∀ c∈l,c∈x)→l.takeWhile (· !=0)=l:=by
   intro l
   induction l with
   |nil=>intro _;rfl
   |cons c r ih=>
    intro hc
    obtain⟨d,e⟩:=all c (hc c List.mem_cons_self)
    have:=k7 e
    rw[List.takeWhile_cons,if_pos (by rw[bne_iff_ne];lia),ih λc h=>hc c (List.mem_cons_of_mem _ h)]
  have es:(numTextOf (st x)).takeWhile (· !=0)=x:=by rw[et];exact tw x λ_ h=>h
  have hk:PySem.W.KIN.Hid (((numTextOf (st x)).takeWhile (· !=0)).length≤640∧(int_private% "readNumeral") 0 b ((numTextOf (st x)).takeWhile (· !=0))=(int_private% "Numeral.value") v∧(((numTextOf (st x)).takeWhile (· !=0)).length==(numTextOf (st x)).length)=true):=by
   rw[es]
   exact⟨hl,vW hb h hx hl,by rw[et];exact beq_self_eq_true _⟩
  clear es tw et asc all h hx hl
  rcases hb with rfl|rfl
  all_goals repeat (any_goals (first
   |assumption
   |((with_reducible show wpAny _ _ ((int_private% "intFromText") _ _ _) _ _ _);refine DX hk.out.1 hk.out.2.1 hk.out.2.2 ?_)
   |wp_step))
  all_goals first|exact⟨_,rfl,hq⟩|skip
end
section
variable {c:Cx}{hp:List O}{n:Nat}
theorem Oc {x:Nm}{b v:Nat}(hb:b=10∨b=16)(h:fL b x=some v)(hx:x≠[])(hl:x.length≤640):TT c n hp "int" [.dat (.str x),.dat (.int (.ofNat b))] (.dat (.int v)) hp:=λA W s us z hv=>(gH hv).elim λu q=>q.elim λu' q=>by
 obtain⟨t⟩:=(q.2.1:IsS x u)
 obtain⟨t'⟩:=(q.2.2:IsI _ u')
 rw[q.1]
 exact callType_new F.called_int F.newNe_int (nJ _ _) (pF _ _) (λobj=>F.args_object_init_3 obj _ _) F.entry_int_new (vX hb h hx hl).meets (show(Made.int v).post _ s from⟨rfl,eS z⟩)
end
noncomputable def jA:List V→Option (List Int)
 | []=>some []
 |v::r=>v.intE.bind λi=>(jA r).map (i::·)
noncomputable def rB:List Int→Int→Int
 | [],a=>a
 |i::r,a=>rB r (a+i)
theorem yQ {P:Params}{W:Wd}:∀ {xs:List V} {is:List Int} {us:List Value},VRs P W xs us→jA xs=some is→us.length=is.length∧∀ (i:Nat) (v:Value),us[i]? =some v→∃ t,v=.int (is[i]?.getD 0) t
 | [],_,_,h,e=>by obtain rfl:_=[]:=h;cases e;exact⟨rfl,λ_ _ q=>nomatch q⟩
 |_::_,_,_,.mk a r,e=>(aK e).elim λx y=>(bA y.2).elim λis q=>by
  obtain⟨l,k⟩:=yQ r q.1
  obtain⟨t,ht⟩:=dP y.1 a
  rw[← q.2]
  refine⟨congrArg (· +1) l,λi v e=>?_⟩
  cases i with
  |zero=>cases e;exact⟨t,ht⟩
  |succ i=>exact k i v e
theorem nL (val:Nat→Int):∀ (is:List Int) (k:Nat),(∀ i x,is[i]? =some x→val (k+i)=x)→preSum val (k+is.length)=rB is (preSum val k)
 | [],k,_=>rfl
 |x::is,k,h=>by
  have:=nL val is (k+1) λi y e=>by rw[Nat.add_assoc,Nat.add_comm 1 i];exact h (i+1) y e
  rw[B3,Nat.add_comm is.length 1,← Nat.add_assoc,this]
  show rB is (preSum val k+val k)=_
  rw[show val k=x from h 0 x rfl];rfl
section
variable {c:Cx}{hp:List O}{n:Nat}
theorem vY {A:Around}{a I:Addr}{us:List Value}(hh:A.handled=none)(ne:a≠I):WalksS c.prog c.w A I [I,a] [I] (· =·) us.length (λi v=>us[i]? =some v) (λi s=>s.heap.IsListIter I a i∧s.heap.IsList a us.toArray) where
 sub:=λb m=>by cases m with|head=>exact .head _|tail _ m=>cases m
 grefl:=λ_=>rfl
 gtrans:=λ_ _ _ x y=>x.trans y
 frame:=λi s h' tk st _ kp=>match st with
  |⟨⟨o,o1,o2⟩,⟨l,l1,l2⟩⟩=>⟨⟨o,kp I (.head _) o o1,o2⟩,⟨l,kp a (.tail _ (.head _)) l l1,l2⟩⟩
 item:=λi s Q E lt st h=>by
  have e:us[i]? =some us[i]:=List.getElem?_eq_getElem lt
  exact wpAny_pyNext_list_item st.1 st.2 ((List.getElem?_toArray ..).trans e) λh' I' sb=>h _ _ e ⟨I',st.2.extBut sb.extBut ne⟩ ⟨λb o m e=>b6 sb b o (λq=>m (q ▸ .head _)) e,rfl,rfl,rfl,A7 _⟩
 done:=λs Q E st h=>wpAny_pyNext_list_end hh st.1 st.2 (by rw[List.getElem?_toArray,List.getElem?_eq_none_iff];exact A7 _) λh' sb=>h _ ⟨λb o m e=>sb b o (λq=>m (q ▸ .head _)) e,rfl,rfl,rfl,A7 _⟩
 self:=λi s Q E st h=>wpAny_mono (E:=no) (pY (c:=c) A s I Q ((by rcases st.1 with⟨o,o1,o2,_⟩;exact⟨o,o1,o2⟩)) h) (λ_ _ q=>q) λ_ _ f=>f.elim
theorem vZ {v:V}{xs:List V}{is:List Int}(e:items v hp=some xs)(e2:jA xs=some is):vD c n hp (.blt "sum") [v] (.dat (.int (rB is 0))) hp:=λA W s fv vals z hf hv=>(bZ hv).elim λu q=>by
 rw[show fv=.builtin "sum" from hf,q.1]
 refine⟨.blt _,?_⟩
 match u,aP z.rel q.2 e with
 |_,.mk a us k I d=>
  obtain⟨l,hval⟩:=yQ d e2
  refine call_sum_walkAnyS (wpAny_pyIter_list (items:=us.toArray) ⟨_,I,rfl,k,rfl⟩ ?_)
  have jI:=z.rel.strange (ob:={cls:=.type "list_iterator",data:=.fields #[.ref a,.int 0 0]})
  have la:a<s.heap.objs.size:=Heap.lt_size I
  refine⟨s.heap.objs.size,_,_,_,us.length,_,_,λi=>is[i]?.getD 0,rfl,vY (show A.in1.handled=none from z.room.hd) (Nat.ne_of_lt la),⟨⟨_,Heap.get?_push_size _ rfl,rfl,rfl⟩,⟨_,Heap.get?_push_of_some _ I,rfl,k,rfl⟩⟩,λb m=>?_,hval,λs' t' hm=>?_⟩
  ·rw[Heap.size_push]
   cases m with
   |head=>exact Nat.lt_succ_self _
   |tail _ m=>cases m with
    |head=>exact Nat.lt_succ_of_lt la
    |tail _ m=>cases m
  ·have kp:eI s.heap.objs.size (s.heap.push {cls:=.type "list_iterator",data:=.fields #[.ref a,.int 0 0]}) s'.heap:=λb o ne e=>hm.heap b o (λm=>by
    cases m with
    |head=>exact ne rfl
    |tail _ m=>cases m) e
   have sm:=nL (λi=>is[i]?.getD 0) is 0 λi x e=>by rw[Nat.zero_add,e];rfl
   rw[Nat.zero_add,← l]at sm
   rw[sm]
   exact .mk W (jI.1.poke z.rel.new_live z.rel.new_cold kp) ⟨jI.2.poke (d4 s.heap) kp,hm.gens ▸ .refl _,hm.os⟩ (.mk t')
variable (c)(n)(hp)
noncomputable def Xr:(v:V)→Option ((b:Nat)×PLift (v=.dat (.int (.ofNat b))))
 |.dat (.int (.ofNat b))=>some ⟨b,⟨rfl⟩⟩
 |_=>none
noncomputable def Xs:(v:V)→Option ((x:Nm)×PLift (v=.dat (.str x)))
 |.dat (.str x)=>some ⟨x,⟨rfl⟩⟩
 |_=>none
theorem TA {t:String}{v w:V}{x:Nm}{b:Nat}(hx:v=.dat (.str x))(hw:w=.dat (.int (.ofNat b)))(g:(decide (t="int")&&((Nat.beq b 10||Nat.beq b 16)&&((fL b x).isSome&&(uV x&&Nat.ble x.length 640))))=true):TT c n hp t [v,w] (.dat (.int ((fL b x).getD 0:Nat))) hp:=by
 have g:=A0 g
 have g2:=A0 g.2
 have g4:=A0 g2.2
 have g3:=A0 g4.2
 rw[of_decide_eq_true g.1,hx,hw]
 exact(Option.isSome_iff_exists.mp g4.1).elim λk e3=>e3▸Oc ((A1 g2.1).imp B0 B0) e3 (λq=>by rw[q]at g3;exact A8 g3.1) (A3 g3.2)
noncomputable def TB (t:String):(args:List V)→Option (Rs V (TT c n hp t args))
 | [v]=>tk (items v hp) λxs e=>tk (iV hp xs) λps e2=>some ⟨.ref hp.length,hp++[.ns (hI [] ps)],decide (t="dict")&&Nat.ble xs.length 100,λg=>have g:=A0 g;of_decide_eq_true g.1▸Oa e e2 g.2⟩
 | [v,w]=>tk (Xs v) λx e=>tk (Xr w) λb e2=>some ⟨.dat (.int ((fL b.1 x.1).getD 0:Nat)),hp,decide (t="int")&&((Nat.beq b.1 10||Nat.beq b.1 16)&&((fL b.1 x.1).isSome&&(uV x.1&&Nat.ble x.1.length 640))),λg=>TA c hp n x.2.down b.2.down g⟩
 |_=>none
noncomputable def Xu (i:String):(args:List V)→Option (Rs V (vD c n hp (.blt i) args))
 | [v]=>match v with
  |.ref l=>AR (hp[l]?.bind O.nsE) (λes e=>some ⟨.dat (.int es.length),hp,decide (i="len")&&Nat.ble es.length lim,λg=>have g:=A0 g;of_decide_eq_true g.1▸Ob e g.2⟩)
   λ_=>tk (items (.ref l) hp) λxs e=>tk (jA xs) λis e2=>some ⟨.dat (.int (rB is 0)),hp,decide (i="sum"),λg=>of_decide_eq_true g▸vZ e e2⟩
  |v=>tk (items v hp) λxs e=>tk (jA xs) λis e2=>some ⟨.dat (.int (rB is 0)),hp,decide (i="sum"),λg=>of_decide_eq_true g▸vZ e e2⟩
 |_=>none
end
section
variable {c:Cx}{sc:aH}{n:Nat}{F:Fx}{hp hp1 hp2 hp3 hp4:List O}
structure SKs (c:Cx) (sc:aH) (n:Nat) (F:Fx) (hp:List O) (ks:List Nm) (kws:List Keyword) (us:List V) (hp':List O):Prop where
 go:∀ A W s env pos,AtF c sc n F hp A W s env→c.wp A (evalAll ((backToKw pos (keywordEach kws env)).map (·.2))) (Post c c.VTs W hp s us hp') s
 all:∀ env pos,(backToKw pos (keywordEach kws env)).all (·.1.isSome)=true
 any:∀ env pos,(backToKw pos (keywordEach kws env)).any (·.1.isNone)=false
 zip:∀ env pos (us:List Value),((backToKw pos (keywordEach kws env)).filterMap (·.1)).zip us=m3 ks us
 len:ks.length=us.length
theorem Od:SKs c sc n F hp [] [] [] hp:=⟨λA W s env pos z=>kwAll_nil (.here z.a rfl),λ_ _=>rfl,λ_ _=>rfl,λ_ _ us=>by cases us <;>rfl,rfl⟩
theorem Im {ks:List Nm}{r:Expr}{kws:List Keyword}{y:Str}{p:Pos}{v:V}{vs:List V}(h1:RE c sc n F hp r v hp1)(hs:SKs c sc n F hp1 ks kws vs hp2):SKs c sc n F hp (y.cps.toList::ks) (⟨some y,r,p⟩::kws) (v::vs) hp2:=
 ⟨λA W s env pos z=>kwAll_cons (h1.go z λW1 u s1 z1 L1 x1=>wpAny_mono (hs.go A W1 s1 env pos z1) (λus s2 q=>(by rcases q with⟨W2,R2,L2,x2⟩;exact .mk W2 R2 (L1.trans L2) (.mk (x1.mono L2.le) x2))) λ_ _ f=>f),λenv pos=>hs.all env pos,λenv pos=>hs.any env pos,λenv pos us=>by
  cases us with
  |nil=>rfl
  |cons u us=>
   show(y,u)::_=(st y.cps.toList,u)::m3 ks us
   rw[aI,← hs.zip env pos us];rfl,congrArg (· +1) hs.len⟩
theorem Oe {r:Expr}{a:Str}{ap p:Pos}{x:Nm}{ks:List Nm}{kws:List Keyword}{u v:V}{us:List V}{f l:Nat}(hl:Nat.blt kws.length 29=true)(hp':(ap.endLine==p.line)=true)(hb:∀ env wh,attributeBase r a env wh=wh)(h1:RE c sc n F hp r u hp1)(h2:GT c n hp1 u a.cps.toList (.fn f l) hp2)
  (hs:SKs c sc n F hp2 ks kws us hp3)(hk:KwOk c.K f x ks)(h4:CallOk c n f (.ref l::us) hp3 v hp4):RE c sc n F hp (.Call (.Attribute r a ap) [] kws p) v hp4:=λA W s env z=>by
 have hl:=A3 hl
 show wpAny _ _ (eval _ env) _ _ _
 rw[arm_eval_Call,hb]
 refine wpAny_bind (h1.go z λW1 u1 s1 z1 L1 x1=>wpAny_bind (wpAny_standAt ?_))
 have few:methodCallForm (([]:List Expr).length+kws.length) (backTo p (starEach [] env)) (backToKw p (keywordEach kws env))=true:=by
  unfold methodCallForm
  rw[hs.all env p]
  simp only[Bool.and_eq_true,decide_eq_true_eq]
  refine⟨⟨by rfl,trivial⟩,?_⟩
  show 0+kws.length+_<30
  have hl:kws.length+1≤29:=hl
  split <;>lia
 unfold methodCall
 rw[few]
 unfold calleeOf
 simp only[if_true]
 rw[← aI a]
 refine wpAny_bind (wpAny_holding (go z1.a (h2 _ A W1 s1 u1 z1.a x1) λW2 fx s2 a2 L2 x2=>?_))
 have hpos:methodCallPos true r env ap p=pure p:=by
  unfold methodCallPos
  simp[hp']
 obtain⟨g,first⟩:=fx
 dsimp only
 rw[hpos]
 obtain⟨hlt,e2⟩:=(x2:l<W2.n∧(g,first)=(.ref f,[.ref (W2.ρ l)]))
 cases e2
 refine wpAny_bind (wpAny_pure ?_)
 refine callWith_of (P:=λh=>Keep c.M h (.ref f)) (by rw[hs.any env p];rfl) (λ_ k=>(by rcases k with⟨k,o,l⟩;exact⟨k,o,l⟩)) ?_
 refine evalArgs_kw2_nil (hs.all env p) ?_
 refine go (z1.next L2 a2).a (hs.go A W2 s2 env p (z1.next L2 a2)) λW3 us3 s3 a3 L3 x3=>?_
 rw[hs.zip env p us3]
 refine⟨.of (keeps_K (jR h4.fn) _ a3.In),?_⟩
 have L03:=(L1.trans L2).trans L3
 exact h9 L03 (wpAny_call (codeAny_mono (h4.run A W3 s3 (.ref (W2.ρ l)::us3) _ (.kw hk (by rw[R2.len x3,hs.len])) a3 (.mk ⟨A6 hlt L3.le.n,congrArg Value.ref (L3.le.ρ _ hlt).symm⟩ x3)) λ_ _ q=>(by rcases q with⟨_,p⟩;exact p)))
theorem TC {f:Nat}{ks:List Nm}{k:Nat×Nm×List Nm}{r:List (Nat×Nm×List Nm)}(e:(Nat.beq k.1 f&&decide (k.2.2=ks))=true):(f,k.2.1,ks)∈k::r:=by
 have e:=A0 e
 obtain⟨k1,k2,k3⟩:=k
 cases B0 e.1
 cases of_decide_eq_true e.2
 exact .head _
noncomputable def kwF (f:Nat)(ks:List Nm)(l:List (Nat×Nm×List Nm)):Option {x:Nm // (f,x,ks)∈l}:=
 List.rec none (λk _ R=>match e:(Nat.beq k.1 f&&decide (k.2.2=ks))with
  |true=>some ⟨k.2.1,TC e⟩
  |false=>R.map λx=>⟨x.1,.tail _ x.2⟩) l
end
theorem DRe.find {P:Params}{W:Wd}{x:Nm}:∀ {es:List (Nm×D)} {en:List DictEntry},DRe P W.fz es en→(lU (st x) en).isSome=aO x (es.map (·.1))
 | [],_,h=>by obtain rfl:_=[]:=h;rfl
 |(y,d)::es,_,.mk (a:=e) a r=>by
  unfold lU
  rw[a.key x]
  show _=(nb y x||aO x (es.map (·.1)))
  cases nb y x with
  |true=>rfl
  |false=>exact DRe.find r
noncomputable def TD (c:Cx)(n:Nat)(hp:List O):(op:Cm)→(a b:V)→Option (Rs Bool λk hp'=>a9 c n hp (compareOp (bI op)) eP a b k hp')
 |.isin,.dat (.str x),.dat (.dct es)=>some ⟨aO x (es.map (·.1)),hp,!aO Bp (es.map (·.1)),λg A W s _ _ z (.mk t) (.mk a en k f d)=>wpAny_in_of (knd:=SK c) (beq_self_eq_true _:Value.isStrOf (st x) (.str (st x) t)=true) (nF z.le0 f d ((Bool.not_eq_true' _).mp g)) (CA (DRe.er d) (z.rel.fz _ _ f)) (by
   have q:=DRe.find (x:=x) d
   cases e:lU (st x) en with
   |some u=>rw[xO e,← q,e];exact .tok z rfl
   |none=>
    have e2:findBy Value.isStrOf en.toArray (st x)=none:=by
     unfold findBy
     rw[List.find?_toArray,funext λe:DictEntry=>SR (st x) e.key]
     exact(gZ _ _).trans e
    rw[e2,← q,e];exact .tok z rfl)⟩
 |_,_,_=>none
end
section
inductive Hi where
 |tst (k:Nat) (b:Bool)
 |val (k:Nat) (v:V)
 |cal (f m:Nat) (σ:List Nat) (v:V) (hp:List O)
 |nxt (m:Nat) (σ:List Nat) (v:V) (hp:List O)
 |itm (k:Nat) (v:V)
 |set (hp:List O)
 |cll (f m:Nat) (v:V) (hp:List O)
 |inl (f:Nat) (σ:List Nat)
 |sub (k:Nat) (v:V)
 |cmp (k:Nat) (b:Bool)
 |exp (k:Nat) (v:V) (hp:List O)
 |bm (v:V) (hp:List O)
 |stm (l:Nat) (fl:Fl) (hp:List O)
 |led (l:Nat) (hp:List O)
structure St where
 hp:List O
 hs:List Hi
 g:Bool
 ob:Prop
structure St.Ok (S:St):Prop where
 g:S.g=true
 ob:S.ob
structure Out (S:St) (β:Type) (T:β→List O→Prop) where
 v:β
 s:St
 ok:s.Ok→S.Ok∧T v s.hp
noncomputable def nM:Bool→Bool→Bool
 |true,b=>b
 |false,_=>false
theorem gK:∀ {a b:Bool},nM a b=true→a=true∧b=true
 |true,_,h=>⟨rfl,h⟩
noncomputable def St.up (S:St)(hp:List O)(g:Bool):St:=⟨hp,S.hs,nM g S.g,S.ob⟩
theorem St.up_ok {S:St}{hp:List O}{g:Bool}(h:(S.up hp g).Ok):g=true∧S.Ok:=have q:=gK h.g;⟨q.1,q.2,h.ob⟩
noncomputable def bd {α β:Type}(x:Option α)(f:α→Option β):Option β:=match x with
 |some a=>f a
 |none=>none
noncomputable def at_ (p:Pos)(k:Nat):Bool:=Nat.beq (Nat.add (Nat.mul p.line 1000000) (Nat.add (Nat.mul p.col 1000) p.endCol)) k
section
variable {S:St}{T:V→List O→Prop}{U:Bool→List O→Prop}
noncomputable def TE (p:Pos)(a:Out S V T):Out S V T:=match a.s.hs with
 |.val k v::r=>match at_ p k with
  |true=>⟨v,⟨a.s.hp,r,a.s.g,a.v=v∧a.s.ob⟩,λh=>have q:=a.ok ⟨h.g,h.ob.2⟩;⟨q.1,h.ob.1▸q.2⟩⟩
  |false=>a
 |_=>a
noncomputable def DY (p:Pos)(a:Out S Bool U):Out S Bool U:=match a.s.hs with
 |.tst k t::r=>match at_ p k with
  |true=>⟨t,⟨a.s.hp,r,nM (AU t a.v) a.s.g,a.s.ob⟩,λh=>have w:=gK h.g;have q:=a.ok ⟨w.2,h.ob⟩;⟨q.1,(show a.v=t from(eq_of_beq ((m7 t a.v).trans w.1)).symm)▸q.2⟩⟩
  |false=>a
 |_=>a
end
structure Tab (c:Cx) where
 l:List (Nat×Fn)
 ok:∀ a F,(a,F)∈l→FnD c.P c.K a F
noncomputable def nO {α:Type}:List (Nat×α)→Nat→Option α
 | [],_=>none
 |x::r,b=>match Nat.beq x.1 b with
  |true=>some x.2
  |false=>nO r b
theorem f8 {α:Type}{b:Nat}{x:α}:∀ {l:List (Nat×α)},nO l b=some x→(b,x)∈l
 |y::r,h=>by
  have h:(bif Nat.beq y.1 b then some y.2 else nO r b)=some x:=h
  cases e:Nat.beq y.1 b with
  |true=>rw[e]at h;rw[← B0 e,← A9 h];exact .head _
  |false=>rw[e]at h;exact .tail _ (f8 h)
structure Ev (c:Cx) where
 e:(sc:aH)→(n:Nat)→(F:Fx)→(r:Expr)→(S:St)→Option (Out S V (RE c sc n F S.hp r))
 t:(sc:aH)→(n:Nat)→(F:Fx)→(r:Expr)→(S:St)→Option (Out S Bool (RB c sc n F S.hp r))
 x:(sc:aH)→(n:Nat)→(F:Fx)→(r:List Stmt)→(S:St)→Option (Out S Fl (RX c sc n F S.hp r))
 g:(sc:aH)→(n:Nat)→(F:Fx)→(r:Expr)→(v:V)→(S:St)→Option (Out S Unit (λ_ hp'=>RG c sc n F S.hp r v hp'))
 ap:(n:Nat)→(f:V)→(args:List V)→(S:St)→Option (Out S V (vD c n S.hp f args))
 call:(n f:Nat)→(args:List V)→(S:St)→Option (Out S V (CallOk c n f args S.hp))
section
variable {c:Cx}{n:Nat}{hp hp2:List O}{args:List V}
theorem Rel.freeze0 {P:Params}{W:Wd}{h:Heap}(R:Rel P W hp h){l:Nat}{d:D}(e:Bk l hp=some d):∃ W',Rel P W' (hp.set l .gone) h∧Ext W hp h W' (hp.set l .gone) h∧DR P W'.fz d (.ref (W.ρ l)):=
 (aK e).elim λo q=>have v:Lv hp l o:=⟨q.1,O.dt_live q.2⟩;match R.obj _ _ v with
  |.mk ob g r=>
   have z:=R.cold _ _ v
   have le:=Wd.le_freeze (o:=ob) z
   have pk:∀ k o1,Lv (hp.set l .gone) k o1→From P W hp h (W.freeze (W.ρ l) ob) (id k) k o1:=λk o1 x=>match x.set with
    |.inl ⟨_,e'⟩=>nomatch (e'▸x.v:O.live .gone=true)
    |.inr ⟨n,y⟩=>.mk o1 y rfl ((R.obj _ _ y).imp (λ_=>id) λ_=>OR.mono le) ((if_neg λq=>n (R.inj _ _ _ _ y v q)).trans (R.cold _ _ y))
   ⟨_,R.via (k:=id) (by rw[List.length_set];exact R.len) (λa o1 e=>by
     by_cases q:a=W.ρ l
     ·subst q;rw[← A9 ((if_pos rfl).symm.trans e)];exact g
     ·exact R.fz _ _ ((if_neg q).symm.trans e)) (Wd.nf_freeze R.nf (r.nofrm (O.dt_fr q.2))) pk λ_ _ _ _=>id,
    ⟨le,λa o1 e=>⟨λ_=>.here e,From.live pk,.here e,λo2 f=>by
     by_cases q:a=W.ρ l
     ·exact .inr (.mk l o v q.symm)
     ·exact .inl ((if_neg q).symm.trans f)⟩⟩,O.dt_ok le.fz q.2 r (if_pos rfl)⟩
theorem DZ {f l:Nat}{d:D}(h:CallOk c n f args hp (.ref l) hp2)(e:Bk l hp2=some d):CallOk c n f args hp (.dat d) (hp2.set l .gone):=
 ⟨h.fn,λA W s vals aa ha z hv=>codeAny_mono (h.run A W s vals aa ha z hv) λr s' q=>(by rcases q with⟨u,⟨W',R',L,x⟩⟩;exact(by rcases R'.freeze0 e with⟨W2,R2,E2,y⟩;exact .mk u (.mk W2 R2 ⟨L.e.trans E2,L.g,L.o⟩ ((show u=.ref (W'.ρ l)from x.2)▸y))))⟩
noncomputable def TF (f:Nat):(v:V)→(hp2:List O)→Rs V (λv' hp'=>CallOk c n f args hp v hp2→CallOk c n f args hp v' hp')
 |.ref l,hp2=>match Nat.ble hp.length l with
  |true=>match e:Bk l hp2 with
   |some d=>⟨.dat d,hp2.set l .gone,true,λ_ h=>DZ h e⟩
   |none=>⟨.ref l,hp2,true,λ_=>id⟩
  |false=>⟨.ref l,hp2,true,λ_=>id⟩
 |v,hp2=>⟨v,hp2,true,λ_=>id⟩
variable (tab:Tab c)(ih:Ev c)
noncomputable def As:(n:Nat)→(f:Nat)→(args:List V)→(S:St)→Option (Out S V (CallOk c n f args S.hp))
 |0,_,_,_=>none
 |n+1,f,args,S=>tk (nO tab.l f) λF e=>tk (sN F args S.hp) λp en=>bd (ih.x F.names n p.1 F.body ⟨p.2,S.hs,S.g,S.ob⟩) λb=>tk (NN b.v) λv rv=>
  let z:=TF (c:=c) (n:=n+1) (hp:=S.hp) (args:=args) f v b.s.hp
  some ⟨z.v,b.s.up z.hp (nM (Nat.ble args.length F.params.length) (nM (Nat.ble F.params.length (args.length+F.dflt.length)) z.g)),λh=>
   have h1:=St.up_ok h
   have h2:=gK h1.1
   have h3:=gK h2.2
   have q:=b.ok h1.2
   ⟨⟨q.1.g,q.1.ob⟩,z.ok h3.2 (xN (tab.ok f F (f8 e)) h2.1 h3.1 en q.2 rv)⟩⟩
theorem Io {m n f:Nat}{args:List V}{hp hp':List O}{v:V}(l:Nat.ble m n=true)(h:CallOk c m f args hp v hp'):CallOk c n f args hp v hp':=
 ⟨h.fn,λA W s vals aa ha z hv=>h.run A W s vals aa ha (z.less (A3 l)) hv⟩
noncomputable def MN (n f m:Nat)(σ:List Nat)(v:V)(hp':List O)(args:List V)(S:St)(r:List Hi):Out S V (CallOk c n f args S.hp):=
 ⟨v.ren (rn σ S.hp.length),⟨fY σ S.hp hp',r,nM (Rt σ args S.hp) (nM (Nat.ble m n) S.g),CallOk c m f (args.map (V.ren (kr σ))) (kept σ S.hp) v hp'∧S.ob⟩,λh=>
  have h1:=gK h.g
  have h2:=gK h1.2
  ⟨⟨h2.2,h.ob.2⟩,qZ h1.1 h2.1 h.ob.1⟩⟩
noncomputable def Xv (n f:Nat)(σ:List Nat)(args:List V)(S:St)(r:List Hi):Option (Out S V (CallOk c n f args S.hp)):=
 bd (As tab ih n f (args.map (V.ren (kr σ))) ⟨kept σ S.hp,r,S.g,S.ob⟩) λa=>some ⟨a.v.ren (rn σ S.hp.length),a.s.up (fY σ S.hp a.s.hp) (Rt σ args S.hp),λh=>
  have h1:=St.up_ok h
  have q:=a.ok h1.2
  ⟨⟨q.1.g,q.1.ob⟩,qZ h1.1 (A4 (A7 n)) q.2⟩⟩
noncomputable def Of (n f:Nat)(args:List V)(S:St):Option (Out S V (CallOk c n f args S.hp)):=match S.hs with
 |.cal f' m σ v hp'::r=>match Nat.beq f' f with
  |true=>some (MN n f m σ v hp' args S r)
  |false=>As tab ih n f args S
 |.nxt m σ v hp'::r=>some (MN n f m σ v hp' args S r)
 |.cll f' m v hp'::r=>match Nat.beq f' f with
  |true=>some ⟨v,⟨hp',r,nM (Nat.ble m n) S.g,CallOk c m f args S.hp v hp'∧S.ob⟩,λh=>
   have w:=gK h.g
   ⟨⟨w.2,h.ob.2⟩,Io w.1 h.ob.1⟩⟩
  |false=>As tab ih n f args S
 |.inl f' σ::r=>match Nat.beq f' f with
  |true=>Xv tab ih n f σ args S r
  |false=>As tab ih n f args S
 |_=>As tab ih n f args S
theorem Og {i:String}{v:V}{b:Bi}(e:i=Hk b)(h:BT c n hp b args v hp2):vD c n hp (.blt i) args v hp2:=λA W s fv vals z hf hv=>by
 subst e
 rw[show fv=.builtin (Hk b)from hf]
 exact⟨.blt _,h A W s vals z hv⟩
theorem Da {t:String}{v:V}(h:TT c n hp t args v hp2):vD c n hp (.typ t) args v hp2:=λA W s fv vals z hf hv=>by
 rw[show fv=.type t from hf]
 exact⟨.typ _,h A W s vals z hv⟩
noncomputable def Oh:(v:V)→Option (PLift (v=.dat .non))
 |.dat .non=>some ⟨rfl⟩
 |_=>none
noncomputable def TG:(n:Nat)→(a:Nat)→(args:List V)→(S:St)→Option (Out S V (vD c n S.hp (.top a) args))
 |0,_,_,_=>none
 |n+1,a,args,S=>tk (qW c.G.cls a) λcl e=>tk (lk cl.meths xW) λi e2=>bd (ih.call n i (.ref (S.hp.length+1)::args) ⟨S.hp++[.ns [],.ins a S.hp.length],S.hs,S.g,S.ob⟩) λb=>bd (Oh b.v) λw=>
  some ⟨.ref (S.hp.length+1),b.s,λh=>have q:=b.ok h;⟨⟨q.1.g,q.1.ob⟩,Ng e e2 (w.down▸q.2)⟩⟩
noncomputable def TH (n:Nat)(i:String)(args:List V)(S:St):Option (Out S V (vD c n S.hp (.blt i) args)):=tk (Nh i) λb e=>bd (pBi c n S.hp b args) λz=>some ⟨z.v,S.up z.hp z.g,λh=>have q:=St.up_ok h;⟨q.2,Og (Se e) (z.ok q.1)⟩⟩
noncomputable def TJ (n:Nat)(t:String)(args:List V)(S:St):Option (Out S V (vD c n S.hp (.typ t) args)):=match Xj c n S.hp t args with
 |some z=>some ⟨z.v,S.up z.hp z.g,λh=>have q:=St.up_ok h;⟨q.2,Da (z.ok q.1)⟩⟩
 |none=>bd (TB c S.hp n t args) λz=>some ⟨z.v,S.up z.hp z.g,λh=>have q:=St.up_ok h;⟨q.2,Da (z.ok q.1)⟩⟩
noncomputable def Xw (n:Nat)(f:V)(args:List V)(S:St):Option (Out S V (vD c n S.hp f args)):=match f with
 |.top a=>match qW c.G.cls a with
  |some _=>TG ih n a args S
  |none=>bd (ih.call n a args S) λb=>some ⟨b.v,b.s,λh=>have q:=b.ok h;⟨q.1,Sd q.2⟩⟩
 |.mth a l=>bd (ih.call n a (.ref l::args) S) λb=>some ⟨b.v,b.s,λh=>have q:=b.ok h;⟨q.1,Nf q.2⟩⟩
 |.blt i=>match TH n i args S with
  |some a=>some a
  |none=>bd (Xu c S.hp n i args) λz=>some ⟨z.v,S.up z.hp z.g,λh=>have q:=St.up_ok h;⟨q.2,z.ok q.1⟩⟩
 |.typ t=>TJ n t args S
 |_=>none
noncomputable def TK (n:Nat)(m:MC)(args:List V)(S:St):Option (Out S V (eT c n S.hp m args)):=match m with
 |.fn f l=>bd (ih.call n f (.ref l::args) S) λb=>some ⟨b.v,b.s,λh=>have q:=b.ok h;⟨q.1,Si q.2⟩⟩
 |.fnT f a=>bd (ih.call n f (.top a::args) S) λb=>some ⟨b.v,b.s,λh=>have q:=b.ok h;⟨q.1,Nn q.2⟩⟩
 |.val v=>bd (ih.ap n v args S) λb=>some ⟨b.v,b.s,λh=>have q:=b.ok h;⟨q.1,No q.2⟩⟩
 |m=>match S.hs with
  |.bm v hp'::r=>some ⟨v,⟨hp',r,S.g,eT c n S.hp m args v hp'∧S.ob⟩,λh=>⟨⟨h.g,h.ob.2⟩,h.ob.1⟩⟩
  |_=>bd (pBm c n S.hp args m) λz=>some ⟨z.v,S.up z.hp z.g,λh=>have q:=St.up_ok h;⟨q.2,z.ok q.1⟩⟩
end
end
section
theorem Db {a:Bool}{op:BoolOp}{C:Prop}(e:AU a (fJ op)=true)(e':a= !fJ op):C:=by
 rw[e',← m7]at e
 cases op <;>cases e
theorem Dc {a:Bool}{op:BoolOp}{C:Prop}(e:AU a (fJ op)=false)(e':a=fJ op):C:=by
 rw[e',← m7]at e
 cases op <;>cases e
structure OpIs (o:Operator) where
 op:Op
 e:fG op=o
noncomputable def Za:(o:Operator)→Option (OpIs o)
 |.Add=>some ⟨.add,rfl⟩
 |.Sub=>some ⟨.sub,rfl⟩
 |.Mod=>some ⟨.mod,rfl⟩
 |.FloorDiv=>some ⟨.fdiv,rfl⟩
 |.Mult=>some ⟨.mul,rfl⟩
 |.Pow=>some ⟨.pow,rfl⟩
 |_=>none
structure CmIs (o:CmpOp) where
 op:Cm
 e:bI op=o
noncomputable def Xx:(o:CmpOp)→CmIs o
 |.Eq=>⟨.eq,rfl⟩|.NotEq=>⟨.ne,rfl⟩|.Lt=>⟨.lt,rfl⟩|.LtE=>⟨.le,rfl⟩|.Gt=>⟨.gt,rfl⟩|.GtE=>⟨.ge,rfl⟩|.Is=>⟨.isn,rfl⟩|.IsNot=>⟨.isnotn,rfl⟩|.In=>⟨.isin,rfl⟩|.NotIn=>⟨.notin,rfl⟩
section
variable {c:Cx}{sc:aH}{n:Nat}{F:Fx}{hp hp1 hp2 hp3 hp4 hp5:List O}{p:Pos}{l r m x:Expr}{u v w:V}{b b':Bool}
theorem Dd {o:Operator}{op:Op}(e:fG op=o)(h1:RE c sc n F hp l u hp1)(h2:RE c sc n F hp1 r v hp2)(h3:a9 c n hp2 (binaryOp (fG op)) c.VT u v w hp3):RE c sc n F hp (.BinOp l o r p) w hp3:=by subst e;exact IE h1 h2 h3
theorem Oi {o:CmpOp}{op:Cm}(e:bI op=o)(hm:(!lastMarks [o] [x])=true)(h1:RE c sc n F hp r u hp1)(h2:RE c sc n F hp1 x v hp2)(h3:a9 c n hp2 (compareOp (bI op)) eP u v b hp3):
  RE c sc n F hp (.Compare r [o] [x] p) (.dat (.boo b)) hp3∧RB c sc n F hp (.Compare r [o] [x] p) b hp3:=by
 subst e
 have hm:=(Bool.not_eq_true' _).mp hm
 exact⟨II hm h1 h2 h3,IJ hm h1 h2 h3⟩
theorem De {o o':CmpOp}{op op':Cm}(e:bI op=o)(e':bI op'=o')(hm:(!lastMarks [o,o'] [m,x])=true)(h1:RE c sc n F hp r u hp1)(h2:RE c sc n F hp1 m v hp2)(h3:a9 c n hp2 (compareOp (bI op)) eP u v b hp3)
  (h4:b=false→b'=false∧hp5=hp3)(h5:b=true→RE c sc n F hp3 x w hp4∧a9 c n hp4 (compareOp (bI op')) eP v w b' hp5):
  RE c sc n F hp (.Compare r [o,o'] [m,x] p) (.dat (.boo b')) hp5∧RB c sc n F hp (.Compare r [o,o'] [m,x] p) b' hp5:=by
 subst e e'
 have hm:=(Bool.not_eq_true' _).mp hm
 exact⟨IK hm h1 h2 h3 h4 h5,IL hm h1 h2 h3 h4 h5⟩
end
section
variable {c:Cx}(tab:Tab c)(ih:Ev c)(sc:aH)(n:Nat)(F:Fx)
noncomputable def gd {α:Type}(b:Bool)(f:b=true→Option α):Option α:=match b,f with
 |true,f=>f rfl
 |false,_=>none
noncomputable def TM (k:Nat)(p:Pos)(S:St):(v:Const)→Option (Out S V (RE c sc n F S.hp (.Constant v k p)))
 |.none=>some ⟨.dat .non,S,λh=>⟨h,Hr⟩⟩
 |.bool b=>some ⟨.dat (.boo b),S,λh=>⟨h,Hs⟩⟩
 |.int i=>some ⟨.dat (.int i),S,λh=>⟨h,Ht⟩⟩
 |.str t=>some ⟨.dat (.str t.cps.toList),S,λh=>⟨h,Hu⟩⟩
 |_=>none
theorem Df {q:Str}(h:p7 sc q.cps.toList=some .free)(hc:(!nb q.cps.toList Xo)=true):sc.lookup q=some .cell∨(sc.lookup q=some .free∧(q==("__classdict__" :Str))=false):=.inr ⟨d5 h,MK Ss ((Bool.not_eq_true' _).mp hc)⟩
noncomputable def TN (q:Str)(p:Pos)(S:St):Option (Out S V (RE c sc n F S.hp (.Name q p))):=gd (!nb q.cps.toList Sr) λd=>
 have d:=MK OU ((Bool.not_eq_true' _).mp d)
 tk (p7 sc q.cps.toList) λk e=>match k,e with
 |.local,e=>tk (AS F q.cps.toList S.hp) λv e2=>some ⟨v,S,λh=>⟨h,Hv (d5 e) d e2⟩⟩
 |.cell,e=>tk (HQ F q.cps.toList S.hp) λv e2=>some ⟨v,S,λh=>⟨h,yA (.inl (d5 e)) d e2⟩⟩
 |.free,e=>gd (!nb q.cps.toList Xo) λhc=>tk (HQ F q.cps.toList S.hp) λv e2=>some ⟨v,S,λh=>⟨h,yA (Df sc e hc) d e2⟩⟩
 |.globalImplicit,e=>tk (HS c.G q.cps.toList) λv e2=>some ⟨v,S,λh=>⟨h,Hw (d5 e) d e2⟩⟩
 |_,_=>none
noncomputable def TO (r:Expr)(a:Str)(p:Pos)(S:St):Option (Out S V (RE c sc n F S.hp (.Attribute r a p))):=gd (nH r) λhb=>bd (ih.e sc n F r S) λx=>bd (SO c n x.s.hp x.v a.cps.toList) λz=>
 some ⟨z.v,x.s.up z.hp z.g,λh=>have q:=St.up_ok h;have w:=x.ok q.2;⟨w.1,Hx (λenv wh=>iB hb a env wh) w.2 (z.ok q.1)⟩⟩
noncomputable def Ip (rs:List Expr):(S:St)→Option (Out S (List V) (Ae c sc n F S.hp rs)):=
 List.rec (λS=>some ⟨[],S,λh=>⟨h,mO⟩⟩) (λr _ R S=>bd (ih.e sc n F r S) λx=>bd (R x.s) λy=>some ⟨x.v::y.v,y.s,λh=>have q:=y.ok h;have w:=x.ok q.1;⟨w.1,jS w.2 q.2⟩⟩) rs
noncomputable def TP (g:Expr)(rs:List Expr)(p:Pos)(S:St):Option (Out S V (RE c sc n F S.hp (.Call g rs [] p))):=gd (yO g) λh1=>gd (rs.all cB) λh2=>bd (ih.e sc n F g S) λx=>bd (Ip ih sc n F rs x.s) λy=>bd (ih.ap n x.v y.v y.s) λz=>
 some ⟨z.v,z.s,λh=>have q:=z.ok h;have w:=y.ok q.1;have t:=x.ok w.1;⟨t.1,yB h2 (DQ h1) t.2 w.2 q.2⟩⟩
noncomputable def TQ (r:Expr)(a:Str)(ap:Pos)(rs:List Expr)(p:Pos)(S:St):Option (Out S V (RE c sc n F S.hp (.Call (.Attribute r a ap) rs [] p))):=gd (nH r) λhb=>gd (rs.all cB) λh2=>gd (Nat.blt rs.length 30) λh3=>gd (ap.endLine==p.line) λh4=>
 bd (ih.e sc n F r S) λx=>bd (Nl c n x.s.hp x.v a.cps.toList) λm=>bd (Ip ih sc n F rs (x.s.up m.hp m.g)) λy=>bd (TK ih n m.v y.v y.s) λz=>
 some ⟨z.v,z.s,λh=>have q:=z.ok h;have w:=y.ok q.1;have u:=St.up_ok w.1;have t:=x.ok u.2;⟨t.1,Hy h2 (A3 h3) h4 (λenv wh=>iB hb a env wh) t.2 (m.ok u.1) w.2 q.2⟩⟩
structure StrIs (v:V) where
 x:Nm
 e:v=.dat (.str x)
noncomputable def TR:(v:V)→Option (StrIs v)
 |.dat (.str x)=>some ⟨x,rfl⟩
 |_=>none
theorem TS {v:V}{x:Nm}(e:v=.dat (.str x)):v=.dat (.str (st x).cps.toList):=e
noncomputable def TU (r:Expr)(a:Str)(ap:Pos)(ya:Str)(ka:Nat)(pa:Pos)(yb:Str)(kb:Nat)(pb:Pos)(p:Pos)(S:St):Option (Out S V (RE c sc n F S.hp (.Call (.Attribute r a ap) [.Constant (.str ya) ka pa,.Constant (.str yb) kb pb] [] p))):=
 gd (nb a.cps.toList OT) λha=>gd (nH r) λhb=>gd (ap.endLine==p.line) λh4=>gd (!nb ya.cps.toList yb.cps.toList) λg1=>gd (uV ya.cps.toList) λg2=>gd (Nat.ble yb.cps.toList.length 14) λg4=>bd (ih.e sc n F r S) λx=>bd (TR x.v) λw=>
 some ⟨.dat (.str (gR ya.cps.toList yb.cps.toList 0 w.x)),x.s.up x.s.hp (Nat.ble w.x.length lim),λh=>have q:=St.up_ok h;have t:=x.ok q.2;⟨t.1,Su OV ha▸IU (t:=st w.x) h4 (λenv wh=>iB hb "replace" env wh) (TS w.e▸t.2) ((Bool.not_eq_true' _).mp g1) g2 q.1 g4⟩⟩
noncomputable def TV (g:Expr)(rs:List Expr)(p:Pos)(S:St):Option (Out S V (RE c sc n F S.hp (.Call g rs [] p))):=
 pV (P:=λg=>Option (Out S V (RE c sc n F S.hp (.Call g rs [] p)))) g (λg=>TP ih sc n F g rs p S) λr a ap=>match nb a.cps.toList OT with
  |true=>match rs with
   | [x,y]=>MD (P:=λx=>Option (Out S V (RE c sc n F S.hp (.Call (.Attribute r a ap) [x,y] [] p)))) x (λ_=>none) λya ka pa=>MD (P:=λy=>Option (Out S V (RE c sc n F S.hp (.Call (.Attribute r a ap) [.Constant (.str ya) ka pa,y] [] p)))) y (λ_=>none) λyb kb pb=>TU ih sc n F r a ap ya ka pa yb kb pb p S
   |_=>none
  |false=>TQ ih sc n F r a ap rs p S
noncomputable def Dg (S:St):(r:Option Expr)→Option (Out S V (RP c sc n F S.hp r))
 |none=>some ⟨.dat .non,S,λh=>⟨h,Nq⟩⟩
 |some r=>bd (ih.e sc n F r S) λx=>some ⟨x.v,x.s,λh=>have q:=x.ok h;⟨q.1,Nr q.2⟩⟩
noncomputable def TW (p:Pos)(o i:V)(S:St):Option (Out S V (a9 c n S.hp getItem c.VT o i)):=
 let usual:Option (Out S V (a9 c n S.hp getItem c.VT o i)):=bd (SS c n S.hp o i) λz=>some ⟨z.v,S.up z.hp z.g,λh=>have q:=St.up_ok h;⟨q.2,z.ok q.1⟩⟩
 match S.hs with
 |.sub k v::r=>match at_ p k with
  |true=>some ⟨v,⟨S.hp,r,S.g,(∀ hp,a9 c n hp getItem c.VT o i v hp)∧S.ob⟩,λh=>⟨⟨h.g,h.ob.2⟩,h.ob.1 _⟩⟩
  |false=>usual
 |.itm k v::r=>match at_ p k with
  |true=>some ⟨v,⟨S.hp,r,S.g,a9 c n S.hp getItem c.VT o i v S.hp∧S.ob⟩,λh=>⟨⟨h.g,h.ob.2⟩,h.ob.1⟩⟩
  |false=>usual
 |_=>usual
noncomputable def TX (r x:Expr)(p:Pos)(S:St):Option (Out S V (RE c sc n F S.hp (.Subscript r x p))):=
 Sb (P:=λx=>Option (Out S V (RE c sc n F S.hp (.Subscript r x p)))) x (λx=>gd (hG x) λhn=>bd (ih.e sc n F r S) λa=>bd (ih.e sc n F x a.s) λb=>gd (iA a.v b.s.hp) λhi=>bd (TW n p a.v b.v b.s) λz=>
  some ⟨z.v,z.s,λh=>have q:=z.ok h;have w:=b.ok q.1;have t:=a.ok w.1;⟨t.1,Hz hn t.2 w.2 hi q.2⟩⟩) λol oh st ap=>match st with
  |none=>bd (ih.e sc n F r S) λa=>bd (Dg ih sc n F a.s ol) λb=>bd (Dg ih sc n F b.s oh) λd=>gd (iA a.v d.s.hp) λhi=>bd (Xm c n d.s.hp a.v b.v d.v) λz=>
   some ⟨z.v,d.s.up z.hp z.g,λh=>have q:=St.up_ok h;have w:=d.ok q.2;have t:=b.ok w.1;have u:=a.ok t.1;⟨u.1,IC u.2 t.2 w.2 hi (z.ok q.1)⟩⟩
  |some _=>none
noncomputable def TY (l:Expr)(o:Operator)(r:Expr)(p:Pos)(S:St):Option (Out S V (RE c sc n F S.hp (.BinOp l o r p))):=bd (Za o) λk=>bd (ih.e sc n F l S) λa=>bd (ih.e sc n F r a.s) λb=>bd (Xd c n b.s.hp k.op a.v b.v) λz=>
 some ⟨z.v,b.s.up z.hp z.g,λh=>have q:=St.up_ok h;have w:=b.ok q.2;have t:=a.ok w.1;⟨t.1,Dd k.e t.2 w.2 (z.ok q.1)⟩⟩
structure IntIs (v:V) where
 x:Nat
 e:v=.dat (.int x)
noncomputable def TZ:(v:V)→Option (IntIs v)
 |.dat (.int (.ofNat x))=>some ⟨x,rfl⟩
 |_=>none
noncomputable def Ta (o:UnaryOp)(r:Expr)(p:Pos)(S:St):Option (Out S V (RE c sc n F S.hp (.UnaryOp o r p))):=bd (ih.e sc n F r S) λa=>match o with
 |.Not=>bd (NV c n a.s.hp a.v) λz=>some ⟨.dat (.boo !z.v),a.s.up z.hp z.g,λh=>have q:=St.up_ok h;have t:=a.ok q.2;⟨t.1,IP t.2 (z.ok q.1)⟩⟩
 |.USub=>bd (TZ a.v) λw=>some ⟨.dat (.int (-(w.x:Int))),a.s,λh=>have t:=a.ok h;⟨t.1,ID (w.e▸t.2)⟩⟩
 |_=>none
noncomputable def Tb (rs:List Expr)(p:Pos)(S:St):Option (Out S V (RE c sc n F S.hp (.List rs p))):=gd (rs.all cB) λh2=>bd (Ip ih sc n F rs S) λy=>
 some ⟨.ref y.s.hp.length,y.s.up (y.s.hp++[.lst y.v]) (Nat.ble y.v.length lim),λh=>have q:=St.up_ok h;have w:=y.ok q.2;⟨w.1,IF h2 w.2 q.1⟩⟩
noncomputable def Tc (rs:List Expr)(k:Nat)(p:Pos)(S:St):Option (Out S V (RE c sc n F S.hp (.Tuple rs k p))):=gd (rs.all cB) λh2=>bd (Ip ih sc n F rs S) λy=>
 some ⟨(vG y.v y.s.hp).1,y.s.up (vG y.v y.s.hp).2 (Nat.ble y.v.length lim),λh=>have q:=St.up_ok h;have w:=y.ok q.2;⟨w.1,IH h2 w.2 q.1⟩⟩
structure Kws (S:St) (R:List Nm→List V→List O→Prop) where
 ks:List Nm
 vs:List V
 s:St
 ok:s.Ok→S.Ok∧R ks vs s.hp
noncomputable def Xy (kws:List Keyword):(S:St)→Option (Kws S (λks vs hp'=>SKs c sc n F S.hp ks kws vs hp')):=
 List.rec (λS=>some ⟨[],[],S,λh=>⟨h,Od⟩⟩) (λk _ R S=>match k with
  |⟨some y,r,p⟩=>bd (ih.e sc n F r S) λa=>bd (R a.s) λb=>some ⟨y.cps.toList::b.ks,a.v::b.vs,b.s,λh=>have q:=b.ok h;have t:=a.ok q.1;⟨t.1,Im t.2 q.2⟩⟩
  |⟨none,_,_⟩=>none) kws
noncomputable def Td:(m:MC)→Option ((f:Nat)×(l:Nat)×PLift (m=.fn f l))
 |.fn f l=>some ⟨f,l,⟨rfl⟩⟩
 |_=>none
noncomputable def Xz (r:Expr)(a:Str)(ap:Pos)(kws:List Keyword)(p:Pos)(S:St):Option (Out S V (RE c sc n F S.hp (.Call (.Attribute r a ap) [] kws p))):=gd (nH r) λhb=>gd (Nat.blt kws.length 29) λh3=>gd (ap.endLine==p.line) λh4=>
 bd (ih.e sc n F r S) λx=>bd (Nl c n x.s.hp x.v a.cps.toList) λm=>bd (Td m.v) λfl=>bd (Xy ih sc n F kws (x.s.up m.hp m.g)) λy=>bd (kwF fl.1 y.ks c.G.kws) λw=>bd (ih.call n fl.1 (.ref fl.2.1::y.vs) y.s) λz=>
 some ⟨z.v,z.s,λh=>have q:=z.ok h;have w':=y.ok q.1;have u:=St.up_ok w'.1;have t:=x.ok u.2;⟨t.1,Oe h3 h4 (λenv wh=>iB hb a env wh) t.2 (fl.2.2.down▸m.ok u.1) w'.2 (c.top.kws _ w.2) q.2⟩⟩
noncomputable def YA (p:Pos)(op:Cm)(a b:V)(S:St):Option (Out S Bool (a9 c n S.hp (compareOp (bI op)) eP a b)):=
 let usual:Option (Out S Bool (a9 c n S.hp (compareOp (bI op)) eP a b)):=match AW c n S.hp op a b with
  |some z=>some ⟨z.v,S.up z.hp z.g,λh=>have q:=St.up_ok h;⟨q.2,z.ok q.1⟩⟩
  |none=>bd (TD c n S.hp op a b) λz=>some ⟨z.v,S.up z.hp z.g,λh=>have q:=St.up_ok h;⟨q.2,z.ok q.1⟩⟩
 match S.hs with
 |.cmp k t::r=>match at_ p k with
  |true=>some ⟨t,⟨S.hp,r,S.g,(∀ hp,a9 c n hp (compareOp (bI op)) eP a b t hp)∧S.ob⟩,λh=>⟨⟨h.g,h.ob.2⟩,h.ob.1 _⟩⟩
  |false=>usual
 |.itm k (.dat (.boo t))::r=>match at_ p k with
  |true=>some ⟨t,⟨S.hp,r,S.g,a9 c n S.hp (compareOp (bI op)) eP a b t S.hp∧S.ob⟩,λh=>⟨⟨h.g,h.ob.2⟩,h.ob.1⟩⟩
  |false=>usual
 |_=>usual
noncomputable def Te (r:Expr)(o:CmpOp)(x:Expr)(p:Pos)(S:St):Option (Out S Bool (λb hp'=>RE c sc n F S.hp (.Compare r [o] [x] p) (.dat (.boo b)) hp'∧RB c sc n F S.hp (.Compare r [o] [x] p) b hp')):=let k:=Xx o
 gd (!lastMarks [o] [x]) λhm=>bd (ih.e sc n F r S) λa=>bd (ih.e sc n F x a.s) λb=>bd (YA n p k.op a.v b.v b.s) λz=>
 some ⟨z.v,z.s,λh=>have q:=z.ok h;have w:=b.ok q.1;have t:=a.ok w.1;⟨t.1,Oi k.e hm t.2 w.2 q.2⟩⟩
noncomputable def Tf (r:Expr)(o o':CmpOp)(m x:Expr)(p:Pos)(S:St):Option (Out S Bool (λb hp'=>RE c sc n F S.hp (.Compare r [o,o'] [m,x] p) (.dat (.boo b)) hp'∧RB c sc n F S.hp (.Compare r [o,o'] [m,x] p) b hp')):=let k:=Xx o;let k':=Xx o'
 gd (!lastMarks [o,o'] [m,x]) λhm=>bd (ih.e sc n F r S) λa=>bd (ih.e sc n F m a.s) λb=>bd (AW c n b.s.hp k.op a.v b.v) λz=>let z':=DY (S:=b.s) (U:=a9 c n b.s.hp (compareOp (bI k.op)) eP a.v b.v) r.pos ⟨z.v,b.s.up z.hp z.g,λh=>have q:=St.up_ok h;⟨q.2,z.ok q.1⟩⟩
 match z' with
 |⟨false,s,ok⟩=>some ⟨false,s,λh=>have q:=ok h;have w:=b.ok q.1;have t:=a.ok w.1;⟨t.1,De k.e k'.e hm t.2 w.2 q.2 (λ_=>⟨rfl,rfl⟩) (w:=.dat .non) (hp4:=s.hp) nofun⟩⟩
 |⟨true,s,ok⟩=>bd (ih.e sc n F x s) λd=>bd (AW c n d.s.hp k'.op b.v d.v) λy=>some ⟨y.v,d.s.up y.hp y.g,λh=>have q:=St.up_ok h;have u:=d.ok q.2;have q':=ok u.1;have w:=b.ok q'.1;have t:=a.ok w.1;⟨t.1,De k.e k'.e hm t.2 w.2 q'.2 nofun λ_=>⟨u.2,y.ok q.1⟩⟩⟩
noncomputable def MO (r:Expr)(os:List CmpOp)(xs:List Expr)(p:Pos)(S:St):Option (Out S Bool (λb hp'=>RE c sc n F S.hp (.Compare r os xs p) (.dat (.boo b)) hp'∧RB c sc n F S.hp (.Compare r os xs p) b hp')):=match os,xs with
 | [o],[x]=>Te ih sc n F r o x p S
 | [o,o'],[m,x]=>Tf ih sc n F r o o' m x p S
 |_,_=>none
noncomputable def Tg (op:BoolOp)(p:Pos)(rs:List Expr):(S:St)→Option (Out S V (RA c sc n F S.hp op p rs)):=
 List.rec (λ_=>none) (λr rs R S=>match rs,R with
  | [],_=>bd (ih.e sc n F r S) λa=>some ⟨a.v,a.s,λh=>have q:=a.ok h;⟨q.1,Nt q.2⟩⟩
  |x::rs,R=>bd (ih.e sc n F r S) λa=>bd (NV c n a.s.hp a.v) λz=>let z':=DY (S:=a.s) (U:=Bs c n a.s.hp truthy Br a.v) r.pos ⟨z.v,a.s.up z.hp z.g,λh=>have q:=St.up_ok h;⟨q.2,z.ok q.1⟩⟩
   match e:AU z'.v (fJ op)with
   |true=>some ⟨a.v,z'.s,λh=>have q:=z'.ok h;have t:=a.ok q.1;⟨t.1,Cj t.2 q.2 (λ_=>⟨rfl,rfl⟩) (Db e)⟩⟩
   |false=>bd (R z'.s) λy=>some ⟨y.v,y.s,λh=>have w:=y.ok h;have q:=z'.ok w.1;have t:=a.ok q.1;⟨t.1,Cj t.2 q.2 (Dc e) λ_=>w.2⟩⟩) rs
noncomputable def Th (op:BoolOp)(rs:List Expr):(S:St)→Option (Out S Bool (RL c sc n F S.hp op rs)):=
 List.rec (λS=>some ⟨!fJ op,S,λh=>⟨h,Nu⟩⟩) (λr _ R S=>bd (ih.t sc n F r S) λa=>match e:AU a.v (fJ op)with
   |true=>some ⟨a.v,a.s,λh=>have t:=a.ok h;⟨t.1,Ck t.2 (λ_=>⟨rfl,rfl⟩) (Db e)⟩⟩
   |false=>bd (R a.s) λy=>some ⟨y.v,y.s,λh=>have w:=y.ok h;have t:=a.ok w.1;⟨t.1,Ck t.2 (Dc e) λ_=>w.2⟩⟩) rs
noncomputable def Ti (r l x:Expr)(p:Pos)(S:St):Option (Out S V (RE c sc n F S.hp (.IfExp r l x p))):=bd (ih.t sc n F r S) λa=>match a with
 |⟨true,s,ok⟩=>bd (ih.e sc n F l s) λy=>some ⟨y.v,y.s,λh=>have w:=y.ok h;have t:=ok w.1;⟨t.1,yE t.2 (λ_=>w.2) nofun⟩⟩
 |⟨false,s,ok⟩=>bd (ih.e sc n F x s) λy=>some ⟨y.v,y.s,λh=>have w:=y.ok h;have t:=ok w.1;⟨t.1,yE t.2 nofun λ_=>w.2⟩⟩
structure Dis (S:St) (R:List Nm→List V→List O→Prop) where
 ks:List Nm
 vs:List V
 s:St
 ok:s.Ok→S.Ok∧R ks vs s.hp
noncomputable def YB (p:Pos)(keys:List (Option Expr)):(rs:List Expr)→(S:St)→Option (Dis S (λks vs hp'=>RD c sc n F S.hp p ks keys rs vs hp')):=
 List.rec (λrs S=>match rs with
  | []=>some ⟨[],[],S,λh=>⟨h,Nv⟩⟩
  |_=>none) (λk _ R rs S=>match k,rs with
  |some (.Constant (.str t) j ap),r::rs=>bd (ih.e sc n F r S) λx=>bd (R rs x.s) λy=>some ⟨t.cps.toList::y.ks,x.v::y.vs,y.s,λh=>have q:=y.ok h;have w:=x.ok q.1;⟨w.1,Nw w.2 q.2⟩⟩
  |_,_=>none) keys
noncomputable def Tj:(es:List (Nm×V))→Option (PLift (es=[]))
 | []=>some ⟨rfl⟩
 |_=>none
noncomputable def Tm (keys:List (Option Expr))(rs:List Expr)(p:Pos)(S:St):Option (Out S V (RE c sc n F S.hp (.Dict keys rs p))):=gd (keys.all (·.isSome)&&(Nat.beq keys.length rs.length&&(uV keys&&Nat.ble keys.length 15))) λg=>
 bd (YB ih sc n F p keys rs ⟨S.hp++[.ns []],S.hs,S.g,S.ob⟩) λy=>tk (y.s.hp[S.hp.length]?.bind O.nsE) λes e=>bd (Tj es) λw=>
 some ⟨.ref S.hp.length,y.s.up (y.s.hp.set S.hp.length (.ns (pW y.ks y.vs []))) true,λh=>have q:=St.up_ok h;have t:=y.ok q.2;⟨⟨t.1.g,t.1.ob⟩,IV g t.2 (w.down▸e)⟩⟩
end
end
section
section
variable {c:Cx}{sc:aH}{n:Nat}{F:Fx}{hp hp1 hp2 hp3 hp4 hp5 hp6:List O}{p px:Pos}{l r x:Expr}{u v w y:V}{q:Str}{o:Operator}{op:Op}
theorem Iq (e:fG op=o)(hk:sc.lookup q=some .local)(e1:AS F q.cps.toList hp=some u)(h2:RE c sc n F hp r w hp1)(h3:a9 c n hp1 (inplaceOp (fG op)) c.VT u w v hp2)(e2:e7 F q.cps.toList v hp2=some hp3):RS c sc n F hp (.AugAssign (.Name q px) o r p) .next hp3:=by
 subst e;exact OJ hk e1 h2 h3 e2
theorem Ir (e:fG op=o)(h1:RE c sc n F hp l y hp1)(h2:∀ e,Bs c n hp1 (λu=>getAttr u (st q.cps.toList) e) c.VT y u hp2)(h3:RE c sc n F hp2 r w hp3)(h4:a9 c n hp3 (inplaceOp (fG op)) c.VT u w v hp4)(h5:a9 c n hp4 (λu w=>setAttr u (st q.cps.toList) w) qT y v () hp5):
  RS c sc n F hp (.AugAssign (.Attribute l q px) o r p) .next hp5:=by subst e;exact OL h1 h2 h3 h4 h5
theorem Iu (e:fG op=o)(hn:hG x=true)(h1:RE c sc n F hp l y hp1)(h2:RE c sc n F hp1 x w hp2)(h3:a9 c n hp2 getItem c.VT y w u hp3)(h4:RE c sc n F hp3 r v hp4){v':V}(h5:a9 c n hp4 (inplaceOp (fG op)) c.VT u v v' hp5)(h6:XC c n hp5 y w v' hp6):
  RS c sc n F hp (.AugAssign (.Subscript l x px) o r p) .next hp6:=by subst e;exact OM hn h1 h2 h3 h4 h5 h6
theorem Iv:RS c sc n F hp (.Return none p) (.ret (.dat .non)) hp:=λ_ _ _ _ z=>wpAny_Return_none (.here z.a ⟨.none,rfl,rfl⟩)
end
noncomputable def Iw:Nat:=4000
inductive FlIs (fl:Fl):Type where
 |on (h:fl.on=true)
 |out (fl':Fl) (h:fl.stp=some fl')
noncomputable def Tn:(fl:Fl)→FlIs fl
 |.next=>.on rfl
 |.cont=>.on rfl
 |.brk=>.out .next rfl
 |.ret v=>.out (.ret v) rfl
inductive GoIs (fl:Fl):Type where
 |on (h:fl=.next)
 |out (h:fl.goes=false)
noncomputable def YC:(fl:Fl)→GoIs fl
 |.next=>.on rfl
 |.cont=>.out rfl
 |.brk=>.out rfl
 |.ret _=>.out rfl
section
variable {c:Cx}(tab:Tab c)(ih:Ev c)(sc:aH)(n:Nat)(F:Fx)
noncomputable def To (rs:List Expr):(vs:List V)→(S:St)→Option (Out S Unit (λ_ hp'=>Rv c sc n F S.hp rs vs hp')):=
 List.rec (λvs S=>match vs with
  | []=>some ⟨(),S,λh=>⟨h,OG⟩⟩
  |_=>none) (λr _ R vs S=>match vs with
  |v::vs=>bd (ih.g sc n F r v S) λa=>bd (R vs a.s) λb=>some ⟨(),b.s,λh=>have q:=b.ok h;have t:=a.ok q.1;⟨t.1,IX t.2 q.2⟩⟩
  | []=>none) rs
noncomputable def evG (g:Expr)(v:V)(S:St):Option (Out S Unit (λ_ hp'=>RG c sc n F S.hp g v hp')):=
 iT (P:=λg=>Option (Out S Unit (λ_ hp'=>RG c sc n F S.hp g v hp'))) g (λg=>pV (P:=λg=>Option (Out S Unit (λ_ hp'=>RG c sc n F S.hp g v hp'))) g (λg=>xV (P:=λg=>Option (Out S Unit (λ_ hp'=>RG c sc n F S.hp g v hp'))) g (λg=>sU (P:=λg=>Option (Out S Unit (λ_ hp'=>RG c sc n F S.hp g v hp'))) g (λ_=>none)
 λrs k p=>gd (rs.all cB) λhn=>AR (dK v S.hp) (λvs e=>gd (Nat.beq vs.length rs.length) λhl=>bd (To ih sc n F rs vs S) λa=>some ⟨(),a.s,λh=>have t:=a.ok h;⟨t.1,OH hn hl e t.2⟩⟩)
  λ_=>tk (items v S.hp) λvs e=>gd (Nat.beq vs.length rs.length) λhl=>bd (To ih sc n F rs vs S) λa=>some ⟨(),a.s,λh=>have t:=a.ok h;⟨t.1,OO hn hl e t.2⟩⟩)
 λr x p=>bd (ih.e sc n F r S) λa=>bd (ih.e sc n F x a.s) λb=>match b.s.hs with
  |.set hp'::q=>some ⟨(),⟨hp',q,b.s.g,XC c n b.s.hp a.v b.v v hp'∧b.s.ob⟩,λh=>have u:=b.ok ⟨h.g,h.ob.2⟩;have t:=a.ok u.1;⟨t.1,Cq t.2 u.2 h.ob.1⟩⟩
  |_=>bd (SU c n b.s.hp a.v b.v v) λz=>some ⟨(),b.s.up z.hp z.g,λh=>have w:=St.up_ok h;have u:=b.ok w.2;have t:=a.ok u.1;⟨t.1,Cq t.2 u.2 (z.ok w.1)⟩⟩)
 λr q p=>bd (ih.e sc n F r S) λa=>bd (SP c n a.s.hp a.v q.cps.toList v) λz=>some ⟨(),a.s.up z.hp z.g,λh=>have w:=St.up_ok h;have t:=a.ok w.2;⟨t.1,OF t.2 (z.ok w.1)⟩⟩)
 λq p=>tk (p7 sc q.cps.toList) λk e=>match k,e with
  |.local,e=>tk (e7 F q.cps.toList v S.hp) λhp' e2=>some ⟨(),S.up hp' true,λh=>have w:=St.up_ok h;⟨w.2,dL (d5 e) e2⟩⟩
  |.cell,e=>tk (HR F q.cps.toList v S.hp) λhp' e2=>some ⟨(),S.up hp' true,λh=>have w:=St.up_ok h;⟨w.2,OE (d5 e) e2⟩⟩
  |_,_=>none
noncomputable def evW (t:Expr)(body:List Stmt)(base m:Nat):(S:St)→Option (Out S Fl (λfl hp'=>mB c sc n F t body base m S.hp fl hp')):=
 Nat.rec (λ_=>none) (λ_ R S=>bd (ih.t sc n F t S) λa=>match a with
  |⟨false,s,ok⟩=>some ⟨.next,s,λh=>have q:=ok h;⟨q.1,.stop q.2⟩⟩
  |⟨true,s,ok⟩=>bd (ih.x sc n F body s) λb=>match Tn b.v with
   |.on o=>bd (R b.s) λd=>some ⟨d.v,d.s,λh=>have w:=d.ok h;have u:=b.ok w.1;have q:=ok u.1;⟨q.1,.turn q.2 u.2 o .id w.2⟩⟩
   |.out fl' o=>some ⟨fl',b.s,λh=>have u:=b.ok h;have q:=ok u.1;⟨q.1,.out q.2 u.2 o⟩⟩) m
noncomputable def evF (g:Expr)(body:List Stmt)(base:Nat)(v:V)(m:Nat):(k:Nat)→(S:St)→Option (Out S Fl (λfl hp'=>s9 c sc n F g body base v m k S.hp fl hp')):=
 Nat.rec (λ_ _=>none) (λ_ R k S=>tk (cW v S.hp) λall e=>AR (all[k]?) (λy x=>bd (ih.g sc n F g y S) λa=>bd (ih.x sc n F body a.s) λb=>match Tn b.v with
   |.on o=>bd (R (k+1) b.s) λd=>some ⟨d.v,d.s,λh=>have w:=d.ok h;have u:=b.ok w.1;have q:=a.ok u.1;⟨q.1,.turn e x q.2 u.2 o .id w.2⟩⟩
   |.out fl' o=>some ⟨fl',b.s,λh=>have u:=b.ok h;have q:=a.ok u.1;⟨q.1,.out e x q.2 u.2 o⟩⟩)
  λx=>some ⟨.next,S,λh=>⟨h,.stop e x⟩⟩) m
noncomputable def YD (ts:List Expr)(S:St):Option (Out S Bool (TsR c sc n F S.hp ts)):=match ts with
 | []=>some ⟨true,S,λh=>⟨h,.nil⟩⟩
 | [t]=>bd (ih.t sc n F t S) λa=>some ⟨a.v,a.s,λh=>have q:=a.ok h;⟨q.1,.one q.2⟩⟩
 |_=>none
noncomputable def Zb (g:Expr)(ts:List Expr)(r:Expr)(L:Nat)(v:V)(m:Nat):(k:Nat)→(S:St)→Option (Out S Unit (λ_ hp'=>vR c sc n F g ts r L v m k S.hp hp')):=
 Nat.rec (λ_ _=>none) (λ_ R k S=>tk (cW v S.hp) λall e=>AR (all[k]?) (λy x=>bd (ih.g sc n F g y S) λa=>bd (YD ih sc n F ts a.s) λw=>match w with
   |⟨true,ws,wok⟩=>bd (ih.e sc n F r ws) λb=>tk (b.s.hp[L]?.bind O.lstE) λxs el=>
    bd (R (k+1) (b.s.up (b.s.hp.set L (.lst (xs++[b.v]))) (Nat.ble xs.length lim))) λd=>some ⟨(),d.s,λh=>have w:=d.ok h;have o:=St.up_ok w.1;have u:=b.ok o.2;have y:=wok u.1;have q:=a.ok y.1;⟨q.1,.turn e x q.2 y.2 u.2 el o.1 w.2⟩⟩
   |⟨false,ws,wok⟩=>bd (R (k+1) ws) λd=>some ⟨(),d.s,λh=>have w:=d.ok h;have y:=wok w.1;have q:=a.ok y.1;⟨q.1,.skip e x q.2 y.2 w.2⟩⟩)
  λx=>some ⟨(),S,λh=>⟨h,.stop e x⟩⟩) m
noncomputable def Tp (re:Expr)(gs:List Comprehension)(scope:Scope)(pos:Pos)(S:St):Option (Out S V (RE c sc n F S.hp (.ListComp re gs scope pos))):=match gs with
 | [⟨rt,ri,ts,0⟩]=>gd (OW scope ri F.cs) λok=>bd (ih.e sc n F ri S) λa=>gd (pC a.v) λhr=>gd (cW a.v a.s.hp).isSome λhi=>
  bd (Zb ih (mC sc scope.names) n ⟨a.s.hp.length+1,eC F.cs (cC scope.names),false⟩ rt ts re a.s.hp.length a.v Iw 0 ⟨a.s.hp++[.lst [],.fr []],a.s.hs,a.s.g,a.s.ob⟩) λb=>tk (b.s.hp[a.s.hp.length+1]?.bind O.frE) λes e=>
  some ⟨.ref a.s.hp.length,b.s.up (b.s.hp.set (a.s.hp.length+1) .gone) true,λh=>have o:=St.up_ok h;have u:=b.ok o.2;have q:=a.ok ⟨u.1.g,u.1.ob⟩;⟨q.1,yN (mP ok) q.2 hr hi u.2 e⟩⟩
 |_=>none
noncomputable def Tq (y:Str)(px:Pos)(re:Expr)(gs:List Comprehension)(scope:Scope)(pos p:Pos)(S:St):Option (Out S Fl (RS c sc n F S.hp (.Assign [.Name y px] (.ListComp re gs scope pos) p))):=match gs with
 | [⟨rt,ri,ts,0⟩]=>gd (OW scope ri F.cs) λok=>gd (jX sc y px (.ListComp re [⟨rt,ri,ts,0⟩] scope pos)) λhw=>gd (cQ (p7 sc y.cps.toList)) λhk=>bd (ih.e sc n F ri S) λa=>gd (pC a.v) λhr=>gd (cW a.v a.s.hp).isSome λhi=>
  bd (Zb ih (mC sc scope.names) n ⟨a.s.hp.length+1,eC F.cs (cC scope.names),false⟩ rt ts re a.s.hp.length a.v Iw 0 ⟨a.s.hp++[.lst [],.fr []],a.s.hs,a.s.g,a.s.ob⟩) λb=>tk (e7 F y.cps.toList (.ref a.s.hp.length) b.s.hp) λhp3 t=>tk (hp3[a.s.hp.length+1]?.bind O.frE) λes e=>
  some ⟨.next,b.s.up (hp3.set (a.s.hp.length+1) .gone) true,λh=>have o:=St.up_ok h;have u:=b.ok o.2;have q:=a.ok ⟨u.1.g,u.1.ob⟩;⟨q.1,DE (mP ok) q.2 hr hi u.2 hw (d5 (cX hk)) t e⟩⟩
 |_=>none
noncomputable def Ts:(vs:List V)→Option ((v1:V)×(v2:V)×PLift (vs=[v1,v2]))
 | [v1,v2]=>some ⟨v1,v2,⟨rfl⟩⟩
 |_=>none
noncomputable def Tt (a:Str)(pa:Pos)(b:Str)(pb:Pos)(k:Nat)(p:Pos)(x y:Expr)(k':Nat)(p' pos:Pos)(S:St):Option (Out S Fl (RS c sc n F S.hp (.Assign [.Tuple [.Name a pa,.Name b pb] k p] (.Tuple [x,y] k' p') pos))):=
 gd (cQ (p7 sc a.cps.toList)) λha=>gd (cQ (p7 sc b.cps.toList)) λhb=>bd (ih.e sc n F (.Tuple [x,y] k' p') S) λd=>tk (dK d.v d.s.hp) λvs e=>bd (Ts vs) λw=>tk (e7 F b.cps.toList w.2.1 d.s.hp) λhp2 t1=>tk (e7 F a.cps.toList w.1 hp2) λhp3 t2=>
 some ⟨.next,⟨hp3,d.s.hs,d.s.g,Ij sc (.Assign [.Tuple [.Name a pa,.Name b pb] k p] (.Tuple [x,y] k' p') pos)=Sy a b∧d.s.ob⟩,λh=>have q:=d.ok ⟨h.g,h.ob.2⟩;⟨q.1,OX ha hb h.ob.1 q.2 (w.2.2.down▸e) t1 t2⟩⟩
noncomputable def Ix:(vs:List V)→Option ((v1:V)×(v2:V)×(v3:V)×PLift (vs=[v1,v2,v3]))
 | [v1,v2,v3]=>some ⟨v1,v2,v3,⟨rfl⟩⟩
 |_=>none
noncomputable def Tu (a:Str)(pa:Pos)(b:Str)(pb:Pos)(d:Str)(pd:Pos)(k:Nat)(p:Pos)(x y w:Expr)(k':Nat)(p' pos:Pos)(S:St):Option (Out S Fl (RS c sc n F S.hp (.Assign [.Tuple [.Name a pa,.Name b pb,.Name d pd] k p] (.Tuple [x,y,w] k' p') pos))):=
 gd (cQ (p7 sc a.cps.toList)) λha=>gd (cQ (p7 sc b.cps.toList)) λhb=>gd (cQ (p7 sc d.cps.toList)) λhd=>bd (ih.e sc n F (.Tuple [x,y,w] k' p') S) λe0=>tk (dK e0.v e0.s.hp) λvs e=>bd (Ix vs) λw0=>tk (e7 F d.cps.toList w0.2.2.1 e0.s.hp) λhp2 t1=>tk (e7 F b.cps.toList w0.2.1 hp2) λhp3 t2=>tk (e7 F a.cps.toList w0.1 hp3) λhp4 t3=>
 some ⟨.next,⟨hp4,e0.s.hs,e0.s.g,Ij sc (.Assign [.Tuple [.Name a pa,.Name b pb,.Name d pd] k p] (.Tuple [x,y,w] k' p') pos)=MM a b d∧e0.s.ob⟩,λh=>have q:=e0.ok ⟨h.g,h.ob.2⟩;⟨q.1,OY ha hb hd h.ob.1 q.2 (w0.2.2.2.down▸e) t1 t2 t3⟩⟩
noncomputable def Tv (g r:Expr)(p:Pos)(S:St):Option (Out S Fl (RS c sc n F S.hp (.Assign [g] r p))):=match Xp sc g r with
 |.plain hs=>gd (cB g&&jU r) λh0=>bd (ih.e sc n F r S) λa=>bd (ih.g sc n F g a.v a.s) λb=>some ⟨.next,b.s,λh=>have q:=b.ok h;have t:=a.ok q.1;⟨t.1,OI h0 hs t.2 q.2⟩⟩
 |.no=>sU (P:=λg=>Option (Out S Fl (RS c sc n F S.hp (.Assign [g] r p)))) g (λ_=>none) λgs k p1=>sU (P:=λr=>Option (Out S Fl (RS c sc n F S.hp (.Assign [.Tuple gs k p1] r p)))) r (λ_=>none) λvs k' p'=>match gs,vs with
  | [a,b],[x,y]=>iT (P:=λa=>Option (Out S Fl (RS c sc n F S.hp (.Assign [.Tuple [a,b] k p1] (.Tuple [x,y] k' p') p)))) a (λ_=>none) λa pa=>iT (P:=λb=>Option (Out S Fl (RS c sc n F S.hp (.Assign [.Tuple [.Name a pa,b] k p1] (.Tuple [x,y] k' p') p)))) b (λ_=>none) λb pb=>Tt ih sc n F a pa b pb k p1 x y k' p' p S
  | [a,b,d],[x,y,w]=>iT (P:=λa=>Option (Out S Fl (RS c sc n F S.hp (.Assign [.Tuple [a,b,d] k p1] (.Tuple [x,y,w] k' p') p)))) a (λ_=>none) λa pa=>iT (P:=λb=>Option (Out S Fl (RS c sc n F S.hp (.Assign [.Tuple [.Name a pa,b,d] k p1] (.Tuple [x,y,w] k' p') p)))) b (λ_=>none) λb pb=>iT (P:=λd=>Option (Out S Fl (RS c sc n F S.hp (.Assign [.Tuple [.Name a pa,.Name b pb,d] k p1] (.Tuple [x,y,w] k' p') p)))) d (λ_=>none) λd pd=>Tu ih sc n F a pa b pb d pd k p1 x y w k' p' p S
  |_,_=>none
noncomputable def Tw (g r:Expr)(p:Pos)(S:St):Option (Out S Fl (RS c sc n F S.hp (.Assign [g] r p))):=
 Xg (P:=λr=>Option (Out S Fl (RS c sc n F S.hp (.Assign [g] r p)))) r (λr=>Tv ih sc n F g r p S) λre gs scope pos=>iT (P:=λg=>Option (Out S Fl (RS c sc n F S.hp (.Assign [g] (.ListComp re gs scope pos) p)))) g (λ_=>none) λy px=>Tq ih sc n F y px re gs scope pos p S
noncomputable def Tx (g:Expr)(o:Operator)(r:Expr)(p:Pos)(S:St):Option (Out S Fl (RS c sc n F S.hp (.AugAssign g o r p))):=bd (Za o) λk=>
 iT (P:=λg=>Option (Out S Fl (RS c sc n F S.hp (.AugAssign g o r p)))) g (λg=>pV (P:=λg=>Option (Out S Fl (RS c sc n F S.hp (.AugAssign g o r p)))) g (λg=>xV (P:=λg=>Option (Out S Fl (RS c sc n F S.hp (.AugAssign g o r p)))) g (λ_=>none)
 λl x px=>gd (hG x) λhn=>bd (ih.e sc n F l S) λa=>bd (ih.e sc n F x a.s) λi=>bd (SS c n i.s.hp a.v i.v) λd=>bd (ih.e sc n F r (i.s.up d.hp d.g)) λb=>bd (NW c n b.s.hp k.op d.v b.v) λz=>bd (SU c n z.hp a.v i.v z.v) λy=>
  some ⟨.next,(b.s.up z.hp z.g).up y.hp y.g,λh=>have w:=St.up_ok h;have w1:=St.up_ok w.2;have q':=b.ok w1.2;have u:=St.up_ok q'.1;have j:=i.ok u.2;have t:=a.ok j.1;⟨t.1,Iu k.e hn t.2 j.2 (d.ok u.1) q'.2 (z.ok w1.1) (y.ok w.1)⟩⟩)
 λl q px=>bd (ih.e sc n F l S) λa=>bd (SO c n a.s.hp a.v q.cps.toList) λx=>bd (ih.e sc n F r (a.s.up x.hp x.g)) λb=>bd (NW c n b.s.hp k.op x.v b.v) λz=>bd (SP c n z.hp a.v q.cps.toList z.v) λy=>
  some ⟨.next,(b.s.up z.hp z.g).up y.hp y.g,λh=>have w:=St.up_ok h;have w1:=St.up_ok w.2;have q':=b.ok w1.2;have u:=St.up_ok q'.1;have t:=a.ok u.2;⟨t.1,Ir k.e t.2 (x.ok u.1) q'.2 (z.ok w1.1) (y.ok w.1)⟩⟩)
 λq px=>gd (cQ (p7 sc q.cps.toList)) λhk=>tk (AS F q.cps.toList S.hp) λu e=>bd (ih.e sc n F r S) λb=>bd (NW c n b.s.hp k.op u b.v) λz=>tk (e7 F q.cps.toList z.v z.hp) λhp3 t=>
  some ⟨.next,b.s.up hp3 z.g,λh=>have w:=St.up_ok h;have q':=b.ok w.2;⟨q'.1,Iq k.e (d5 (cX hk)) e q'.2 (z.ok w.1) t⟩⟩
noncomputable def YE (r:Expr)(ts ts2:List Stmt)(p:Pos)(S:St):Option (Out S Fl (RS c sc n F S.hp (.If r ts ts2 p))):=bd (ih.t sc n F r S) λa=>match a with
 |⟨true,s,ok⟩=>bd (ih.x sc n F ts s) λy=>some ⟨y.v,y.s,λh=>have w:=y.ok h;have t:=ok w.1;⟨t.1,Cp t.2 (λ_=>w.2) nofun⟩⟩
 |⟨false,s,ok⟩=>bd (ih.x sc n F ts2 s) λy=>some ⟨y.v,y.s,λh=>have w:=y.ok h;have t:=ok w.1;⟨t.1,Cp t.2 nofun λ_=>w.2⟩⟩
noncomputable def Ty (g i:Expr)(body:List Stmt)(p:Pos)(S:St):Option (Out S Fl (RS c sc n F S.hp (.For g i body [] p))):=gd (k6 i) λhf=>bd (ih.e sc n F i S) λa=>gd (pC a.v) λhr=>gd (cW a.v a.s.hp).isSome λhi=>bd (evF ih sc n F g body a.s.hp.length a.v Iw 0 a.s) λb=>
  some ⟨b.v,b.s,λh=>have q:=b.ok h;have t:=a.ok q.1;⟨t.1,kZ (λenv x=>d6 hf env x) t.2 hr hi q.2⟩⟩
noncomputable def Iy (t:Stmt)(S:St):Option (Out S Fl (RS c sc n F S.hp t)):=match t with
 |.Expr r p=>gd (jU r) λhc=>bd (ih.e sc n F r S) λa=>some ⟨.next,a.s,λh=>have q:=a.ok h;⟨q.1,Ny hc q.2⟩⟩
 |.Assign [g] r p=>Tw ih sc n F g r p S
 |.AugAssign g o r p=>Tx ih sc n F g o r p S
 |.If r ts ts2 p=>YE ih sc n F r ts ts2 p S
 |.While r body [] p=>bd (evW ih sc n F r body S.hp.length Iw S) λa=>some ⟨a.v,a.s,λh=>have q:=a.ok h;⟨q.1,i9 q.2⟩⟩
 |.For g i body [] p=>Ty ih sc n F g i body p S
 |.Return (some r) p=>bd (ih.e sc n F r S) λa=>some ⟨.ret a.v,a.s,λh=>have q:=a.ok h;⟨q.1,Nz q.2⟩⟩
 |.Return none p=>some ⟨.ret (.dat .non),S,λh=>⟨h,Iv⟩⟩
 |.Break p=>some ⟨.brk,S,λh=>⟨h,OA⟩⟩
 |.Pass p=>some ⟨.next,S,λh=>⟨h,OC⟩⟩
 |.Try body (_::_) [] [] _=>bd (ih.x sc n F body S) λa=>some ⟨a.v,a.s,λh=>have q:=a.ok h;⟨q.1,ON q.2⟩⟩
 |.Assert r o p=>bd (ih.t sc n F r S) λa=>match a with
  |⟨true,s,ok⟩=>some ⟨.next,s,λh=>have q:=ok h;⟨q.1,OD q.2⟩⟩
  |_=>none
 |_=>none
noncomputable def Zd (t:Stmt)(S:St):Option (Out S Fl (RS c sc n F S.hp t)):=match S.hs with
 |.stm l fl hp'::r=>match Nat.beq t.pos.line l with
  |true=>some ⟨fl,⟨hp',r,S.g,RS c sc n F S.hp t fl hp'∧S.ob⟩,λh=>⟨⟨h.g,h.ob.2⟩,h.ob.1⟩⟩
  |false=>Iy ih sc n F t S
 |.led l hp'::r=>match Nat.beq t.pos.line l with
  |true=>bd (Iy ih sc n F t ⟨hp',r,S.g,S.hp=hp'∧S.ob⟩) λa=>some ⟨a.v,a.s,λh=>have q:=a.ok h;⟨⟨q.1.g,q.1.ob.2⟩,q.1.ob.1▸q.2⟩⟩
  |false=>Iy ih sc n F t S
 |_=>Iy ih sc n F t S
noncomputable def evX (ts:List Stmt):(S:St)→Option (Out S Fl (RX c sc n F S.hp ts)):=
 List.rec (λS=>some ⟨.next,S,λh=>⟨h,Co⟩⟩) (λt _ R S=>bd (Zd ih sc n F t S) λa=>match YC a.v with
  |.on e=>bd (R a.s) λb=>some ⟨b.v,b.s,λh=>have q:=b.ok h;have t:=a.ok q.1;⟨t.1,cP (e▸t.2) q.2⟩⟩
  |.out g=>some ⟨a.v,a.s,λh=>have t:=a.ok h;⟨t.1,IW t.2 g⟩⟩) ts
noncomputable def YF (r:Expr)(S:St):Option (Out S V (RE c sc n F S.hp r)):=match r with
 |.Constant v k p=>TM sc n F k p S v
 |.Name q p=>TN sc n F q p S
 |.Attribute r a p=>TO ih sc n F r a p S
 |.Call g rs kws p=>match kws,rs with
  | [],rs=>TV ih sc n F g rs p S
  |kw::kws,[]=>pV (P:=λg=>Option (Out S V (RE c sc n F S.hp (.Call g [] (kw::kws) p)))) g (λ_=>none) λr a ap=>Xz ih sc n F r a ap (kw::kws) p S
  |_,_=>none
 |.Subscript r x p=>TX ih sc n F r x p S
 |.BinOp l o r p=>TY ih sc n F l o r p S
 |.UnaryOp o r p=>Ta ih sc n F o r p S
 |.Compare r os xs p=>bd (MO ih sc n F r os xs p S) λa=>some ⟨.dat (.boo a.v),a.s,λh=>have q:=a.ok h;⟨q.1,q.2.1⟩⟩
 |.BoolOp op rs p=>bd (Tg ih sc n F op p rs S) λa=>some ⟨a.v,a.s,λh=>have q:=a.ok h;⟨q.1,IR q.2⟩⟩
 |.IfExp r l x p=>Ti ih sc n F r l x p S
 |.List rs p=>Tb ih sc n F rs p S
 |.Tuple rs k p=>Tc ih sc n F rs k p S
 |.Dict ks rs p=>Tm ih sc n F ks rs p S
 |.ListComp re gs scope p=>Tp ih sc n F re gs scope p S
 |_=>none
noncomputable def evE (r:Expr)(S:St):Option (Out S V (RE c sc n F S.hp r)):=
 let usual:Option (Out S V (RE c sc n F S.hp r)):=bd (YF ih sc n F r S) λa=>some (TE r.pos a)
 match S.hs with
 |.exp k v hp'::q=>match at_ r.pos k with
  |true=>some ⟨v,⟨hp',q,S.g,RE c sc n F S.hp r v hp'∧S.ob⟩,λh=>⟨⟨h.g,h.ob.2⟩,h.ob.1⟩⟩
  |false=>usual
 |_=>usual
noncomputable def Tz (r:Expr)(S:St):Option (Out S Bool (RB c sc n F S.hp r)):=gd (Sv r) λhv=>bd (ih.e sc n F r S) λa=>bd (NV c n a.s.hp a.v) λz=>some ⟨z.v,a.s.up z.hp z.g,λh=>have q:=St.up_ok h;have t:=a.ok q.2;⟨t.1,IM (λenv wh=>Ie hv env wh) t.2 (z.ok q.1)⟩⟩
noncomputable def YG (r:Expr)(S:St):Option (Out S Bool (RB c sc n F S.hp r)):=match r with
 |.Constant (.bool b) k p=>some ⟨b,S,λh=>⟨h,IN⟩⟩
 |.UnaryOp .Not r p=>bd (ih.t sc n F r S) λa=>some ⟨!a.v,a.s,λh=>have q:=a.ok h;⟨q.1,IQ q.2⟩⟩
 |.Compare r os xs p=>bd (MO ih sc n F r os xs p S) λa=>some ⟨a.v,a.s,λh=>have q:=a.ok h;⟨q.1,q.2.2⟩⟩
 |.BoolOp op rs p=>bd (Th ih sc n F op rs S) λa=>some ⟨a.v,a.s,λh=>have q:=a.ok h;⟨q.1,IT q.2⟩⟩
 |.IfExp r l x p=>bd (ih.t sc n F r S) λa=>match a with
  |⟨true,s,ok⟩=>bd (ih.t sc n F l s) λy=>some ⟨y.v,y.s,λh=>have w:=y.ok h;have t:=ok w.1;⟨t.1,yF t.2 (λ_=>w.2) nofun⟩⟩
  |⟨false,s,ok⟩=>bd (ih.t sc n F x s) λy=>some ⟨y.v,y.s,λh=>have w:=y.ok h;have t:=ok w.1;⟨t.1,yF t.2 nofun λ_=>w.2⟩⟩
 |r=>Tz ih sc n F r S
noncomputable def evT (r:Expr)(S:St):Option (Out S Bool (RB c sc n F S.hp r)):=bd (YG ih sc n F r S) λa=>some (DY r.pos a)
end
noncomputable def Ev.nil (c:Cx):Ev c:=⟨λ_ _ _ _ _=>none,λ_ _ _ _ _=>none,λ_ _ _ _ _=>none,λ_ _ _ _ _ _=>none,λ_ _ _ _=>none,λ_ _ _ _=>none⟩
noncomputable def Ev.step {c:Cx}(tab:Tab c)(ih:Ev c):Ev c:=⟨λsc n F r S=>evE ih sc n F r S,λsc n F r S=>evT ih sc n F r S,λsc n F r S=>evX ih sc n F r S,λsc n F r v S=>evG ih sc n F r v S,λn f args S=>Xw ih n f args S,λn f args S=>Of tab ih n f args S⟩
noncomputable def ev {c:Cx}(tab:Tab c)(k:Nat):Ev c:=Nat.rec (Ev.nil c) (λ_ ih=>ih.step tab) k
end
section
noncomputable def Dh (l:List Nat):List Stmt→Option (Arguments×Scope×List Stmt):= @List.rec Nat (λ_=>List Stmt→Option (Arguments×Scope×List Stmt)) (λ_=>none) (λi r ih b=>bif r.isEmpty then(SZ (bV b i)).map (·.2)else(Sa (bV b i)).bind λx=>ih x.2) l
noncomputable def iM (p:Program)(path:List Nat)(dflt:List V):Fn:=match Dh path p.main.body with
 |some (a,sc,b)=>⟨a.args.map λx=>x.arg.cps.toList,dflt,cS sc.names,sc.names,b⟩
 |none=>⟨[],[],[],[],[]⟩
noncomputable def YH (b:List Stmt):GenX:=(λw1=>(λw2 w3=>(λq e=>⟨bV b 0,⟨w1.1,w2.1,(Hg q.1).1,w3.1,(Hg e.1).1⟩,w1.2.2,w2.2.2,w3.2.2,e.2,(Hg e.1).2,q.2,(Hg q.1).2⟩) (Nc (bV w2.2.1 0)) (Nc (bV w3.2.1 0))) (Ac (bV w1.2.1 0)) (Ac (bV w1.2.1 1))) (Ac (bV b 1))
structure Zc (p:Program) (G:Gam) (tl:List (Nat×Fn)) where
 w:World
 K:Frag
 top:Top w.params K G
 tab:∀ a F,(a,F)∈tl→FnD w.params K a F
section
variable {p:Program}{G:Gam}{tl:List (Nat×Fn)}(z:Zc p G tl)
noncomputable def Zc.c:Cx:=⟨p,z.w,z.K,G,z.top⟩
noncomputable def Zc.t:Tab z.c:=⟨tl,z.tab⟩
noncomputable def Zc.ev:Ev z.c:=Tk.ev z.t 4000
end
noncomputable def V.lb:V→List Nat
 |.ref l=>[l]
 |.mth _ l=>[l]
 |_=>[]
noncomputable def O.lb:O→List Nat
 |.lst xs=>xs.flatMap V.lb
 |.tup xs=>xs.flatMap V.lb
 |.ns es=>es.flatMap λx=>x.2.lb
 |.cel (some v)=>v.lb
 |.ins _ d=>[d]
 |_=>[]
noncomputable def YI (k:Nat)(hp:List O):Nat→List Nat→List Nat→List Nat
 |0,_,seen=>seen
 |_+1,[],seen=>seen
 |m+1,l::r,seen=>match Nat.blt l k||fF seen l with
  |true=>YI k hp m r seen
  |false=>YI k hp m ((hp[l]?.getD .gone).lb++r) (seen++[l])
noncomputable def auto (k:Nat)(v:V)(hp:List O):List Nat:=YI k hp 1000 (v.lb++(hp.take k).flatMap O.lb) []
inductive Fo where
 |fz (fz τ:List Nat)
 |auto
noncomputable def MP (k:Nat)(o:Fo)(v:V)(hp:List O):Option (V×List O):=match o with
 |.fz fz τ=>g7 k fz τ v hp
 |.auto=>g7 k [] (auto k v hp) v hp
theorem v0 {c:Cx}{n f:Nat}{args:List V}{hp hp2:List O}{v:V}{o:Fo}{p:V×List O}(h:CallOk c n f args hp v hp2)(e:MP hp.length o v hp2=some p):CallOk c n f args hp p.1 p.2:=by
 cases o with
 |fz fz τ=>exact kQ h e
 |auto=>exact kQ h e
structure An (β:Type) where
 v:β
 hp:List O
 g:Bool
 ob:Prop
noncomputable def tG (hs:List Hi):Bool:=match hs with
 | []=>true
 |_=>false
section
variable {p:Program}{G:Gam}{tl:List (Nat×Fn)}(z:Zc p G tl)
noncomputable def Zc.run (n f:Nat)(args:List V)(hp:List O)(hs:List Hi)(o:Fo):Option (An V):=bd (As z.t z.ev n f args ⟨hp,hs,true,True⟩) λa=>gd (tG a.s.hs) λ_=>bd (MP hp.length o a.v a.s.hp) λp=>some ⟨p.1,p.2,a.s.g,a.s.ob⟩
theorem k8 {α β:Type}{f:α→Option β}{x:Option α}{y:β}(h:bd x f=some y):∃ z,x=some z∧f z=some y:=by
 cases x with
 |none=>cases h
 |some z=>exact⟨z,rfl,h⟩
theorem nP {α:Type}{b:Bool}{f:b=true→Option α}{y:α}(h:gd b f=some y):∃ e,f e=some y:=by
 cases b with
 |true=>exact⟨rfl,h⟩
 |false=>cases h
theorem Zc.use {n f:Nat}{args:List V}{hp hp':List O}{hs:List Hi}{o:Fo}{v:V}{g:Bool}{ob:Prop}(hg:g=true)(ho:ob)(e:z.run n f args hp hs o=some ⟨v,hp',g,ob⟩):CallOk z.c n f args hp v hp':=by
 obtain⟨a,e1,e⟩:=k8 e
 obtain⟨_,e⟩:=nP e
 obtain⟨q,e2,e⟩:=k8 e
 cases e
 exact v0 (a.ok ⟨hg,ho⟩).2 e2
noncomputable def Zc.runT (n:Nat)(sc:aH)(F:Fx)(r:Expr)(hp:List O)(hs:List Hi):Option (An Bool):=bd (z.ev.t sc n F r ⟨hp,hs,true,True⟩) λa=>gd (tG a.s.hs) λ_=>some ⟨a.v,a.s.hp,a.s.g,a.s.ob⟩
noncomputable def Zc.runE (n:Nat)(sc:aH)(F:Fx)(r:Expr)(hp:List O)(hs:List Hi):Option (An V):=bd (z.ev.e sc n F r ⟨hp,hs,true,True⟩) λa=>gd (tG a.s.hs) λ_=>some ⟨a.v,a.s.hp,a.s.g,a.s.ob⟩
noncomputable def Zc.runX (n:Nat)(sc:aH)(F:Fx)(r:List Stmt)(hp:List O)(hs:List Hi):Option (An Fl):=bd (z.ev.x sc n F r ⟨hp,hs,true,True⟩) λa=>gd (tG a.s.hs) λ_=>some ⟨a.v,a.s.hp,a.s.g,a.s.ob⟩
noncomputable def Zc.runS (n:Nat)(sc:aH)(F:Fx)(r:Stmt)(hp:List O)(hs:List Hi):Option (An Fl):=bd (Zd z.ev sc n F r ⟨hp,hs,true,True⟩) λa=>gd (tG a.s.hs) λ_=>some ⟨a.v,a.s.hp,a.s.g,a.s.ob⟩
section
variable {z}{n:Nat}{sc:aH}{F:Fx}{hp hp':List O}{hs:List Hi}{g:Bool}{ob:Prop}(hg:g=true)(ho:ob)
include hg ho
theorem Zc.useT {r:Expr}{b:Bool}(e:z.runT n sc F r hp hs=some ⟨b,hp',g,ob⟩):RB z.c sc n F hp r b hp':=by
 obtain⟨a,e1,e⟩:=k8 e
 obtain⟨_,e⟩:=nP e
 cases e
 exact(a.ok ⟨hg,ho⟩).2
theorem Zc.useE {r:Expr}{v:V}(e:z.runE n sc F r hp hs=some ⟨v,hp',g,ob⟩):RE z.c sc n F hp r v hp':=by
 obtain⟨a,e1,e⟩:=k8 e
 obtain⟨_,e⟩:=nP e
 cases e
 exact(a.ok ⟨hg,ho⟩).2
theorem Zc.useX {r:List Stmt}{fl:Fl}(e:z.runX n sc F r hp hs=some ⟨fl,hp',g,ob⟩):RX z.c sc n F hp r fl hp':=by
 obtain⟨a,e1,e⟩:=k8 e
 obtain⟨_,e⟩:=nP e
 cases e
 exact(a.ok ⟨hg,ho⟩).2
theorem Zc.useS {r:Stmt}{fl:Fl}(e:z.runS n sc F r hp hs=some ⟨fl,hp',g,ob⟩):RS z.c sc n F hp r fl hp':=by
 obtain⟨a,e1,e⟩:=k8 e
 obtain⟨_,e⟩:=nP e
 cases e
 exact(a.ok ⟨hg,ho⟩).2
end
end
structure ForI where
 y:Str
 px:Pos
 i:Expr
 b:List Stmt
 p:Pos
noncomputable def Di (s:Stmt):ForI:=⟨(jQ (CK s).1).1,(jQ (CK s).1).2,(CK s).2.1,(CK s).2.2.1,(CK s).2.2.2⟩
noncomputable def ForI.g (f:ForI):Expr:=.Name f.y f.px
noncomputable def ForI.s (f:ForI):Stmt:=.For (.Name f.y f.px) f.i f.b [] f.p
structure WhlI where
 t:Expr
 b:List Stmt
 p:Pos
noncomputable def Au (s:Stmt):WhlI:=⟨(Ac s).1,(Ac s).2.1,(Ac s).2.2⟩
noncomputable def WhlI.s (f:WhlI):Stmt:=.While f.t f.b [] f.p
end
section
noncomputable def MQ:Nm:=[95,95,99,111,110,116,97,105,110,115,95,95]
theorem Iz:st MQ=("__contains__" :Str):=by decide+kernel
section
variable {M:Model}{A:Around}{E:Value→Shared→Prop}{s:Shared}{K:Frag}{x C f:Addr}{ox:Obj}{od:Option Obj}{v:Value}
theorem Oj {Q:Value→Shared→Prop}(X:K.In s.heap)(I:PySem.W.InstAt s.heap x ox C od)(hs:findIn K (.ref C) "__contains__" =some (some (.ref f)))(hf:PySem.W.isFn K (.ref f)=true)
  (h:wpAny M A (call (.ref f) [.ref x,v]) (λr s'=>wpAny M A (truthy r) (λb=>Q (.bool b)) E s') E s):wpAny M A (compareOp .In v (.ref x)) Q E s:=by
 refine wpAny_bind (wpAny_mono (Q:=λb s'=>Q (.bool b) s') ?_ (λ_ _ z=>wpAny_pure z) λ_ _ z=>z)
 unfold contains
 refine wpAny_holding (wpAny_bind (wpAny_bind (I.type.here ((looks_findIn X hs).here ?_))))
 rw[if_neg (by simp)]
 exact wpAny_bind (unlessNone_K X I hs hf h)
end
section
variable {c:Cx}{n:Nat}{hp:List O}{v:V}{a f:Nat}{t:TI}{cl:Cl}{b:Bool}
theorem Ol (e:HT c.G.tops a=some t)(e2:qW c.G.cls t.c=some cl)(e4:lk cl.meths MQ=some f)(h:CallOk c n f [.top a,v] hp (.dat (.boo b)) hp):a9 c n hp (compareOp .In) eP v (.top a) b hp:=λA W s u u' z hv ho=>match u6 z e,Bw e2 with
 |.mk en k E ia,C=>by
  rw[show u'=.ref _ from ho]
  have M:=C.meths _ f e4
  have mf:=M.find
  rw[Iz]at mf
  refine Oj z.In ia mf (beq_iff_eq.mpr M.type) (wpAny_mono (E:=no) (h8 (h.run A W s _ _ .pos z (.mk rfl (R2.one hv)))) (λr s' p=>?_) λ_ _ f=>f.elim)
  match p with
  |.mk W' R' L' x=>
   rw[show r=.bool b from x]
   exact wpAny_pure (.mk W' R' L' rfl)
end
end
section
theorem nQ {o:Obj}(h:frm o=true)(vs:Array Value)(q:o.data=.fields vs):False:=by
 unfold frm at h
 rw[q]at h
 cases h
section
variable {P:Params}{W W':Wd}{hp hp':List O}{h0 h h' base:Heap}
theorem nR (R:Rel P W' hp' h)(E:Ext W hp h0 W' hp' h)(hb:∀ a o,h.get? a=some o→iQ a o=false→(Live W' hp' a∨(∃ z,W'.fz a=some z)∨∃ z,h0.get? a=some z)→base.get? a=some o)
  (st:base.StaysIn h')(sm:h.UpToSlots h'):Rel P W' hp' h'∧Ext W hp h0 W' hp' h':=by
 have go:∀ a o,h.get? a=some o→(Live W' hp' a∨(∃ z,W'.fz a=some z)∨∃ z,h0.get? a=some z)→Up h' a o:=λa o e c=>by
  cases f:iQ a o with
  |false=>exact .here (st _ _ (hb a o e f c))
  |true=>
   obtain⟨sl,e'⟩:=sm a o e λvs=>nQ (jL f) vs
   exact .mk _ e' (.sl f sl)
 exact⟨⟨R.len,λl o v=>(by rcases R.obj l o v with⟨ob,g,r⟩;exact(by rcases go _ ob g (.inl (.mk l o v rfl))with⟨ob',g',u⟩;exact .mk ob' g' (r.upto u))),R.cold,R.inj,λa o e=>(go a o (R.fz a o e) (.inr (.inl ⟨o,e⟩))).eqm (R.nf a o e),R.nf⟩,
  E.le,λa o e=>have X:=E.at_ a o e
   ⟨λn=>(by rcases X.keep n with⟨o1,g1,u1⟩;exact(by rcases go a o1 g1 (.inr (.inr ⟨o,e⟩))with⟨o2,g2,u2⟩;exact .mk o2 g2 (u1.trans u2))),X.live,(by rcases X.ex with⟨o1,g1,f1⟩;exact(by rcases go a o1 g1 (.inr (.inr ⟨o,e⟩))with⟨o2,g2,u2⟩;exact .mk o2 g2 λq=>u2.frm.trans (f1 q))),X.cool⟩⟩
theorem Fs.fun' {h base:Heap}:∀ {l:List Env},(∀ env∈l,FrAt h env)→(∀ env∈l,∀ a,env.frame=some a→base.get? a=none)→h.FunFrames base l
 | [],_,_=>trivial
 |env::l,f,g=>(by rcases f env List.mem_cons_self with⟨L,o,k,a,b,c⟩;exact⟨k,⟨L,o,a,g env List.mem_cons_self L a,b,λvs=>nQ (jL c) vs⟩,Fs.fun' (λe m=>f e (List.mem_cons_of_mem _ m)) λe m=>g e (List.mem_cons_of_mem _ m)⟩)
end
inductive Flies (c:Cx) (A:Around) (W:Wd) (hp:List O) (s:Shared) (hp':List O) (s':Shared) (r:Result):Prop
 |mk (W':Wd) (e:Addr) (base:Heap) (t:Value) (re:r=.error (.ref e)) (R:Rel c.P W' hp' s'.heap) (L:Lat W hp s W' hp' s') (fly:∀ l,A.frames=some l→Heap.FlyingW base l e (.type "KeyError") t s'.heap)
   (hb:∀ a o,s'.heap.get? a=some o→iQ a o=false→(Live W' hp' a∨(∃ z,W'.fz a=some z)∨∃ z,s.heap.get? a=some z)→base.get? a=some o)
structure RaiseOk (c:Cx) (n f:Nat) (args:List V) (hp hp':List O):Prop where
 fn:fnIn c.K f=true
 run:∀ A W s vals,At c n A W hp s→VRs c.P W args vals→codeAny c.M A (.call (.ref f) ⟨vals,[]⟩) (λr s'=>Flies c A W hp s hp' s' r) s
theorem Om:isSubtype (.type "KeyError") (.type "KeyError")=pure true:=by rw[isSubtype_type];kernel_rfl
theorem On:isSubtype (.type "KeyError") (.type "BaseException")=pure true:=by rw[isSubtype_type];kernel_rfl
theorem UA:isSubtype (.type ((Manifest.find? "KeyError").elim "type" λx=>x.metatype)) (.type "tuple")=pure false:=by rw[isSubtype_type];kernel_rfl
end
section
section
variable {c:Cx}{A:Around}{α β:Type}{RR:RT β α}{n:Nat}{W:Wd}{hp hp':List O}{s:Shared}{b:β}{E:Value→Shared→Prop}
theorem goE {m:Sem α}{Z:α→Shared→Prop}(z:At c n A W hp s)(h:c.wp A m (Post c RR W hp s b hp') s)(k:∀ W' a s',At c n A W' hp' s'→Lat W hp s W' hp' s'→RR W' b a→Z a s'):wpAny c.M A m Z E s:=
 wpAny_mono (E:=no) (go z h k) (λ_ _ x=>x) λ_ _ f=>f.elim
end
section
variable {c:Cx}{sc:aH}{n:Nat}{F:Fx}{hp hp1 hp2 hp3 hp4:List O}{p ap:Pos}{r:Expr}{rs:List Expr}{us:List V}{A:Around}{W:Wd}{s:Shared}{env:Env}
theorem Av {a:Str}{ta f:Nat}{Q EH:Value→Shared→Prop}(hn:rs.all cB=true)(hl:rs.length<30)(hp':(ap.endLine==p.line)=true)(hb:∀ env wh,attributeBase r a env wh=wh)(h1:RE c sc n F hp r (.top ta) hp1)(h2:GT c n hp1 (.top ta) a.cps.toList (.fnT f ta) hp2)(h3:Ae c sc n F hp2 rs us hp3)
  (h4:RaiseOk c n f (.top ta::us) hp3 hp4)(z:AtF c sc n F hp A W s env)(h:∀ e s',Flies c A W hp s hp4 s' (.error e)→EH e s'):wpAny c.M A (eval (.Call (.Attribute r a ap) rs [] p) env) Q EH s:=by
 rw[arm_eval_Call,hb]
 refine wpAny_bind (wpAny_mono (E:=no) (h1.go z λW1 u1 s1 z1 L1 x1=>wpAny_bind (wpAny_standAt ?_)) (λ_ _ x=>x) λ_ _ f=>f.elim)
 rw[cV p env hn]
 have few:methodCallForm (rs.length+([]:List Keyword).length) (rs.map λr=>(false,eval r env)) (backToKw p (keywordEach [] env))=true:=by
  unfold methodCallForm
  exact Bool.and_eq_true_iff.mpr ⟨Bool.and_eq_true_iff.mpr ⟨by simp,rfl⟩,decide_eq_true hl⟩
 unfold methodCall
 rw[few]
 unfold calleeOf
 rw[if_pos rfl,← aI a]
 refine wpAny_bind (wpAny_holding (goE z1.a (h2 _ A W1 s1 u1 z1.a x1) λW2 fx s2 a2 L2 x2=>?_))
 have hpos:methodCallPos true r env ap p=pure p:=by
  unfold methodCallPos
  simp[hp']
 obtain⟨g,first⟩:=fx
 dsimp only
 rw[hpos]
 cases(x2:(g,first)=(.ref f,[.ref ta]))
 refine wpAny_bind (wpAny_pure (x9 (wpAny_mono (E:=no) (h3.go (z1.next L2 a2) λW3 us3 s3 z3 L3 x3=>?_) (λ_ _ x=>x) λ_ _ f=>f.elim)))
 have L03:=(L1.trans L2).trans L3
 refine⟨.of (keeps_K (jR h4.fn) _ z3.a.In),wpAny_call (codeAny_mono (h4.run A W3 s3 _ z3.a (.mk rfl x3)) λr' s' q=>?_)⟩
 match q with
 |.mk W4 e base t re R L fly hb4=>
  subst re
  exact h _ s' (.mk W4 e base t rfl R (L03.trans L) fly λa o g f c=>hb4 a o g f (c.elim .inl λc=>.inr (c.elim .inl λ⟨zz,c⟩=>.inr ((by rcases(L03.e.at_ a zz c).ex with⟨o',k,_⟩;exact⟨o',k⟩)))))
end
end
section
noncomputable def HI:Nm:=[75,101,121,69,114,114,111,114]
theorem Dj:(st HI==("__debug__" :Str))=false:=by decide+kernel
section
variable {c:Cx}{sc:aH}{n:Nat}{F:Fx}{hp hp':List O}{A B:Around}{W:Wd}{s:Shared}{env:Env}{x:Nm}{v:V}{u:Value}
theorem Dk {EE:Value→Shared→Prop}{Q:Value→Shared→Prop}{t:String}(z:AtF c sc n F hp A W s env)(hk:sc.lookup (st x)=some .globalImplicit)(h0:lk c.G.glob x=none)(h1:lk c.G.blts x=some (.typ t))(q:Q (.type t) s):
  wpAny c.M B (loadName env (st x)) Q EE s:=by
 have hk:env.kindOf (st x)=some .globalImplicit:=by unfold Env.kindOf;rw[z.sc];exact hk
 have h:loadName env (st x)=loadGlobal env (st x):=by
  unfold loadName
  simp only[Env.blockKind,z.f.kind,hk,ScopeKind.isAnnotationScope,Bool.false_and,Bool.false_eq_true,if_false]
 rw[h]
 exact match c.top.main,c.top.blt with
 |.mk o es ep l d k q1,.mk o' es' ep' l' d' k' q'=>by
  have hN:s.heap.Ns env.globals λy=>nsFind es y:=z.f.glob ▸ ⟨o,es,ep,z.a.In _ _ l,d,k,λ_=>rfl⟩
  obtain⟨u,r1,r2⟩:=q' x _ h1
  obtain rfl:u=.type t:=r2
  exact Calls.loadGlobal_builtin hN (q1.2 x _ h1) (z.f.blt ▸ ⟨o',es',ep',z.a.In _ _ l',d',k',λ_=>rfl⟩:s.heap.Ns env.builtins λy=>nsFind es' y) r1 q
theorem JA (z:AtF c sc n F hp A W s env)(hk:sc.lookup (st x)=some .local)(hv:VR c.P W v u)(e:e7 F x v hp=some hp'):c.wp B (storeName env (st x) u) (Post c qT W hp s () hp') s:=
 (bA e).elim λes q=>have lv:=m4 q.1;match z.a.rel.fr lv with
 |.mk cl en k g d=>by
  rw[storeName_local (by unfold Env.kindOf;rw[z.sc];exact hk) (by rw[z.f.kind];rfl),z.f.loc,← q.2]
  exact qU z.a lv g d hv λen' k' d'=>.mk cl en' k' d'
end
section
variable {c:Cx}{sc:aH}{n:Nat}{F:Fx}{hp hp1 hp2 hp3 hp4 hp5:List O}{r:Expr}{rs:List Expr}{us:List V}{x:Nm}
theorem JB {a:Str}{ta f:Nat}{rb:List Stmt}{ap cpos apos px kp py cp apos2 hpos tpos:Pos}{cx:Nat}(hn:rs.all cB=true)(hl:rs.length<30)(hp':(ap.endLine==cpos.line)=true)(hb:∀ env wh,attributeBase r a env wh=wh)
  (h1:RE c sc n F hp r (.top ta) hp1)(h2:GT c n hp1 (.top ta) a.cps.toList (.fnT f ta) hp2)(h3:Ae c sc n F hp2 rs us hp3)(h4:RaiseOk c n f (.top ta::us) hp3 hp4)(ho:F.own=true)
  (hk:sc.lookup (st x)=some .local)(e:e7 F x (.dat .non) hp4=some hp5)(hg:lk c.G.glob HI=none)(hg':lk c.G.blts HI=some (.typ "KeyError"))(hke:sc.lookup (st HI)=some .globalImplicit)
  (hsw:∀ env,swapsWithSole [.Name (st x) px] (.Call (.Attribute r a ap) rs [] cpos) apos.line env=pure false)(hst:∀ env,env.scope.kind=.function→env.scope.names=sc→swappedStores [.Name (st x) px] (.Call (.Attribute r a ap) rs [] cpos) env=pure none):
  RS c sc n F hp (.Try (.Assign [.Name (st x) px] (.Call (.Attribute r a ap) rs [] cpos) apos::rb) [.ExceptHandler (some (.Name (st HI) kp)) none [.Assign [.Name (st x) py] (.Constant .none cx cp) apos2] hpos] [] [] tpos) .next hp5:=λA W s env z=>by
 refine wpAny_Try_except ?_
 generalize hBQ:(λf s₁=>match f with|Flow.next=>wpAny (model c.prog c.w) A (execs [] env) (Post c c.FT W hp s .next hp5) no s₁|f=>Post c c.FT W hp s .next hp5 f s₁:Flow→Shared→Prop)=BQ
 rw[execs_cons]
 refine bK (wpAny_Assign_stores ?_ (hsw env) (hst env z.f.kind z.sc))
 refine wpAny_with_toks (A7 s.toks) (Av hn hl hp' hb h1 h2 h3 h4 z λev s' fl tk=>?_)
 match fl with
 |.mk W' ea base t re R L fly hb4=>
 cases re
 obtain⟨l,hfr⟩:=z.top ho
 obtain⟨Lf,oL',g0,g1,g2,g3⟩:∃ (Lf:Addr) (o:Obj),env.scope.kind≠.module∧env.frame=some Lf∧s'.heap.get? Lf=some o∧frm o=true:=match z.a.fs with
  |.mk l' e' f'=>match(f' env (by rw[hfr]at e';cases e';exact List.mem_cons_self)).ext L.e with
   |.mk a b c d e f=>⟨a,b,c,d,e,jL f⟩
 have hfl:=fly _ hfr
 refine wpAny_looks_onW hfr g1 hfl λh₄ held₄ sm₄=>?_
 refine wpAny_landsW held₄ λh₅ held sm₅=>?_
 obtain⟨ob,hob,hobc⟩:=held.there
 have z5:=nR R L.e hb4 held.1 (sm₄.trans sm₅)
 refine wpAny_handleBy_builtin (X:="KeyError") (T:="KeyError") (b:=true) On UA Om ?_
 have L5:Lat W hp s W' hp4 {s' with heap:=h₅}:=⟨z5.2,L.g,L.o⟩
 have zz:AtF c sc n F hp4 A W' {s' with heap:=h₅} env:=z.next L5 (z.a.next L5 z5.1 tk)
 refine wpAny_Name (Dk zz hke hg hg' ⟨rfl,⟨ob,hob,hobc⟩,?_⟩) Dj
 rw[if_pos rfl]
 refine lands_againW (s:={s' with heap:=h₅}) held λh₆ hfl₆ sm₆=>?_
 have z6:=nR R L.e hb4 hfl₆.1 ((sm₄.trans sm₅).trans sm₆)
 have L6:Lat W hp s W' hp4 {s' with heap:=h₆}:=⟨z6.2,L.g,L.o⟩
 have z7:AtF c sc n F hp4 A W' {s' with heap:=h₆} env:=z.next L6 (z.a.next L6 z6.1 tk)
 rw[execs_cons]
 refine bK (wpAny_mono (E:=no) (wpAny_Assign_stores (Q:=λf s7=>f=.next∧Post c qT W' hp4 {s' with heap:=h₆} () hp5 () s7) ?_ rfl rfl) (λf s7 q=>?_) λ_ _ f=>f.elim)
 ·rw[eval_Constant]
  refine wpAny_pure ?_
  show wpAny _ _ (assign (.Name (st x) py) env .none) _ _ _
  exact wpAny_mono (wpAny_assign_Name (JA z7 hk (v:=.dat .non) (u:=.none) rfl e)) (λ_ _ q=>⟨rfl,q⟩) λ_ _ f=>f
 ·obtain⟨rfl,q⟩:=q
  exact wpAny_execs_nil (q.nxt.later L6)
end
end
section
theorem nS (r:Stmt)(env:Env):∀ rb:List Stmt,execs (rb++[r]) env=execs rb env >>= λf=>match f with|.next=>execs [r] env|f=>pure f
 | []=>by
  show execs [r] env=(pure Flow.next:Sem Flow) >>= _
  rw[pure_bind]
 |r0::rb=>by
  show execs (r0::(rb++[r])) env=execs (r0::rb) env >>= _
  rw[execs_cons,execs_cons,bind_assoc]
  congr 1
  funext f
  cases f with
  |next=>exact nS r env rb
  |_=>rw[pure_bind]
theorem JC {M:Model}{A:Around}{env:Env}{r:Stmt}{rb:List Stmt}{s:Shared}{Q:Flow→Shared→Prop}{E:Value→Shared→Prop}(h:wpAny M A (execs rb env) (λf s'=>match f with|.next=>wpAny M A (exec r env) Q E s'|f=>Q f s') E s):wpAny M A (execs (rb++[r]) env) Q E s:=by
 rw[nS]
 refine wpAny_bind (wpAny_mono h (λf s' q=>?_) λ_ _ x=>x)
 cases f with
 |next=>
  show wpAny M A (execs [r] env) Q E s'
  rw[execs_cons]
  refine wpAny_bind (wpAny_mono q (λf s2 q=>?_) λ_ _ x=>x)
  cases f <;>exact wpAny_pure q
 |_=>exact wpAny_pure q
section
variable {c:Cx}{n:Nat}
theorem yR {h:Heap}{l:List Env}(ha:∀ env∈l,FrAt h env){a:Addr}{o:Obj}(e:h.get? a=some o)(f:iQ a o=false):(hideAll h (l.filterMap (·.frame))).get? a=some o:=
 hideAll_get _ e λm=>(List.mem_filterMap.mp m).elim λen q=>match ha en q.1 with
  |.mk L o' _ k1 k2 k3=>by
   rw[q.2]at k1;cases k1
   rw[e]at k2;cases k2
   rw[f]at k3;cases k3
theorem v4 {a:Nat}{F:Fn}{args:List V}{hp hp1 hp2 hp3:List O}{X:Fx}{rb:List Stmt}{ra:Expr}{np cpos rpos:Pos}{v:V}{fz τ:List Nat}{p:V×List O}(D:FnD c.P c.K a F)(h1:Nat.ble args.length F.params.length=true)(h2:Nat.ble F.params.length (args.length+F.dflt.length)=true)
  (en:sN F args hp=some (X,hp1))(eb:F.body=rb++[.Raise (some (.Call (.Name (st HI) np) [ra] [] cpos)) none rpos])(b:RX c F.names n X hp1 rb .next hp2)(b2:RE c F.names n X hp2 ra v hp3)(hns:cB ra=true)
  (ho:X.own=true)(hg:lk c.G.glob HI=none)(hg':lk c.G.blts HI=some (.typ "KeyError"))(hke:F.names.lookup (st HI)=some .globalImplicit)(e:g7 hp.length fz τ (.dat .non) hp3=some p):RaiseOk c (n+1) a args hp p.2:=
 ⟨(by rcases D with⟨_,_,_,_,fn,_,_,_,_⟩;exact fn),λA W s vals z hv=>pO D h1 h2 en z hv .pos λW2 s2 env z2 L=>by
  rw[eb]
  refine JC (wpAny_mono (E:=no) (b.go z2 λW3 f s3 z3 L3 x3=>?_) (λ_ _ q=>q) λ_ _ f=>f.elim)
  obtain rfl:f=.next:=x3
  refine Raise_new z3.a.room.hd (Call_Name1 (wpAny_Name (Dk z3 hke hg hg' ?_) Dj) (by have w:=cV cpos env (rs:=[ra]) (by simp[hns]);cases ra <;>first|rfl|cases hns))
  refine PyProof.Rows.callWith_type rfl (Calls.evalArgs_plain ?_)
  have b3:Ae c F.names n X hp2 [ra] [v] hp3:=jS b2 mO
  refine wpAny_mono (E:=no) (b3.go z3 λW4 us s4 z4 L4 x4=>?_) (λ_ _ q=>q) λ_ _ f=>f.elim
  have L04:=(L.trans L3).trans L4
  refine call_exc_raise excClass_KeyError (λh' ea hx=>?_) (by show us.length≤_;rw[R2.len x4];exact(by decide:1≤sizeLine))
  obtain⟨W5,R5,E5,_,_⟩:Vr c.P W hp s.heap s4.heap W4 hp3 p.1 .none p.2:=jO (z.rel.len.symm▸e:g7 W.n fz τ (.dat .non) hp3=some p) (.mk W4 z4.a.rel L04.e rfl λ_ n z=>⟨n,z⟩)
  obtain⟨l,hfr⟩:=z4.top ho
  obtain⟨_,e',hall⟩:=z4.a.fs
  rw[hfr]at e';cases e'
  obtain⟨ob,t,he1,he2,he3⟩:=hx.there
  obtain⟨Lf,oL',_,g1,g2,g3⟩:=hall env List.mem_cons_self
  have hen:(hideAll s4.heap ((env::l).filterMap (·.frame))).get? ea=none:=by
   cases w:(hideAll s4.heap ((env::l).filterMap (·.frame))).get? ea with
   |none=>rfl
   |some o=>have:=of_hideAll _ w;rw[hx.new]at this;cases this
  refine wpAny_leaving_firstW (s:={s4 with heap:=h'}) (base:=hideAll s4.heap ((env::l).filterMap (·.frame))) (outer:=l) hfr
   (Fs.fun' (λen m=>(by rcases hall en m with⟨L,o,k,f,g,m⟩;exact .mk L o k f (hx.keeps _ _ g) m)) λen m a q=>hideAll_none _ (List.mem_filterMap.mpr ⟨en,m,q⟩))
   g1 he1 (λb o q=>hx.keeps _ _ (of_hideAll _ q)) hen he3 rfl rfl λh2 ⟨k1,⟨_,_,k2⟩,k3,k4⟩=>?_
  rw[he2]at k3
  have sm:s4.heap.UpToSlots h2:=(Heap.UpToSlots.of_keeps hx.keeps).trans k4
  have w:=nR R5 E5 (λa o e f _=>yR hall e f) k1 sm
  refine .mk W5 ea (hideAll s4.heap ((env::l).filterMap (·.frame))) t rfl w.1 ⟨w.2,L04.g,L04.o⟩ (λl' hl'=>?_) λa o e f cc=>?_
  ·have q:(A.deeper env).frames=A.frames.map (env::·):=rfl
   rw[hl']at q
   rw[q]at hfr
   cases hfr
   exact⟨k1,hen,k2,k3⟩
  ·obtain⟨o1,e1⟩:∃ o1,s4.heap.get? a=some o1:=cc.elim (λ|.mk l o v q=>(by rcases R5.obj l o v with⟨ob,g,_⟩;exact⟨ob,q▸g⟩)) λcc=>cc.elim (λ⟨zz,q⟩=>⟨_,R5.fz _ _ q⟩) λ⟨zz,q⟩=>match(E5.at_ a zz q).ex with|.mk o1 g _=>⟨o1,g⟩
   cases f1:iQ a o1 with
   |true=>
    obtain⟨sl,g⟩:=sm a o1 e1 λvs=>nQ (jL f1) vs
    rw[e]at g;cases g
    have:iQ a {o1 with slots:=sl}=iQ a o1:=rfl
    rw[this,f1]at f;cases f
   |false=>
    have g:=yR hall e1 f1
    have:=k1 _ _ g
    rw[e]at this;cases this
    exact g⟩
end
end
section
noncomputable def Oo:Nm:=[116,101,120,116]
noncomputable def JD:Nm:=[112,108,97,99,101]
noncomputable def f9:Nm:=aAl
noncomputable def v5:Nm:=[110,101,119,76,105,110,101,115]
noncomputable def rC:Nm:=[100,97,116,97,83,116,114,101,97,109]
noncomputable def JE:Nm:=[99,104,117,110,107]
noncomputable def tH:Nm:=[99,104,117,110,107,83,105,122,101]
noncomputable def pG:Nm:=[99,104,117,110,107,79,102,102,115,101,116]
noncomputable def Dl:Nm:=[101,114,114,111,114,115]
noncomputable def nT:Nm:=aAw
noncomputable def pH:Nm:=[112,114,101,118,78,117,109,67,111,108,115]
noncomputable def iN:Nm:=aAn
noncomputable def Oq:Nm:=aA1
noncomputable def Os:Nm:=aAz
noncomputable def v6:Nm:=aAo
noncomputable def pI:Nm:=aAk
noncomputable def Dm:Nm:=[115,116,114,101,97,109]
noncomputable def Dn:Nm:=[112,97,114,115,101,114]
noncomputable def rD:Nm:=[101,115,99,97,112,101,70,108,97,103]
noncomputable def mD:Nm:=aAt
noncomputable def JF:Nm:=[115,116,97,116,101]
noncomputable def Do:Nm:=[101,115,99,97,112,101]
noncomputable def nU:Nm:=aAx
noncomputable def rE:Nm:=[116,111,107,101,110,81,117,101,117,101]
noncomputable def jZ:Nm:=[116,101,109,112,111,114,97,114,121,66,117,102,102,101,114]
noncomputable def UB:D:=.non
noncomputable def b0:D:=.tup [.str [9],.str [10],.str [12],.str [32],.str [13]]
noncomputable def hM:D:=.tup [.str [97],.str [98],.str [99],.str [100],.str [101],.str [102],.str [103],.str [104],.str [105],.str [106],.str [107],.str [108],.str [109],.str [110],.str [111],.str [112],.str [113],.str [114],.str [115],.str [116],.str [117],.str [118],.str [119],.str [120],.str [121],.str [122],.str [65],.str [66],.str [67],.str [68],.str [69],.str [70],.str [71],.str [72],.str [73],.str [74],.str [75],.str [76],.str [77],.str [78],.str [79],.str [80],.str [81],.str [82],.str [83],.str [84],.str [85],.str [86],.str [87],.str [88],.str [89],.str [90]]
noncomputable def nV:D:=.tup [.str [48],.str [49],.str [50],.str [51],.str [52],.str [53],.str [54],.str [55],.str [56],.str [57]]
noncomputable def hP:D:=.tup [.str [48],.str [49],.str [50],.str [51],.str [52],.str [53],.str [54],.str [55],.str [56],.str [57],.str [97],.str [98],.str [99],.str [100],.str [101],.str [102],.str [65],.str [66],.str [67],.str [68],.str [69],.str [70]]
noncomputable def aR:D:=.dct [([65,77,80],.str [38]),([65,77,80,59],.str [38]),([69,97,99,117,116,101],.str [201]),([69,97,99,117,116,101,59],.str [201]),([77,111,112,102,59],.str [120132]),([97,99,59],.str [8766]),([97,99,69,59],.str [8766,819]),([97,99,117,116,101],.str [180]),([97,99,117,116,101,59],.str [180]),([97,109,112],.str [38]),([97,109,112,59],.str [38]),([97,110,103,59],.str [8736]),([97,110,103,108,101,59],.str [8736]),([98,110,101,59],.str [61,8421]),([99,111,112,121],.str [169]),([99,111,112,121,59],.str [169]),([101,97,99,117,116,101],.str [233]),([101,97,99,117,116,101,59],.str [233]),([102,114,97,99,49,50],.str [189]),([102,114,97,99,49,50,59],.str [189]),([103,116],.str [62]),([103,116,59],.str [62]),([108,116],.str [60]),([108,116,59],.str [60]),([110,98,115,112],.str [160]),([110,98,115,112,59],.str [160]),([110,111,116],.str [172]),([110,111,116,59],.str [172]),([110,111,116,105,110,59],.str [8713]),([110,111,116,110,105,59],.str [8716]),([112,97,114,97],.str [182]),([112,97,114,97,59],.str [182]),([112,97,114,97,108,108,101,108,59],.str [8741]),([113,117,111,116],.str [34]),([113,117,111,116,59],.str [34]),([115,117,112,49],.str [185]),([115,117,112,49,59],.str [185]),([115,117,112,50],.str [178]),([115,117,112,50,59],.str [178]),([115,117,112,59],.str [8835]),([116,105,109,101,115],.str [215]),([116,105,109,101,115,59],.str [215]),([116,105,109,101,115,98,59],.str [8864])]
noncomputable def eY:D:=.dct [([68,111,99,116,121,112,101],.int 0),([67,104,97,114,97,99,116,101,114,115],.int 1),([83,112,97,99,101,67,104,97,114,97,99,116,101,114,115],.int 2),([83,116,97,114,116,84,97,103],.int 3),([69,110,100,84,97,103],.int 4),([69,109,112,116,121,84,97,103],.int 5),([67,111,109,109,101,110,116],.int 6),([80,97,114,115,101,69,114,114,111,114],.int 7)]
noncomputable def mF:D:=.tup [.int 3,.int 4,.int 5]
noncomputable def j0:D:=.str [61,48,49,50,51,52,53,54,55,56,57,65,66,67,68,69,70,71,72,73,74,75,76,77,78,79,80,81,82,83,84,85,86,87,88,89,90,97,98,99,100,101,102,103,104,105,106,107,108,109,110,111,112,113,114,115,116,117,118,119,120,121,122]
noncomputable def tI:D:=.str [48,49,50,51,52,53,54,55,56,57]
noncomputable def mG:D:=.str aAm
noncomputable def Ot:Cl:=⟨73,[(aAr,63),([114,101,97,100],70)],
 [Oo,JD],[]⟩
noncomputable def fR:Cl:=⟨166,[(aAr,98),([114,101,115,101,116],105),([111,112,101,110,83,116,114,101,97,109],112),([95,112,111,115,105,116,105,111,110],119),([112,111,115,105,116,105,111,110],126),([99,104,97,114],133),([114,101,97,100,67,104,117,110,107],141),([99,104,97,114,97,99,116,101,114,69,114,114,111,114,115,85,67,83,52],148),([99,104,97,114,115,85,110,116,105,108],156),([117,110,103,101,116],163)],
 [f9,v5,rC,JE,tH,pG,Dl,nT,pH,iN],[([95,100,101,102,97,117,108,116,67,104,117,110,107,83,105,122,101],.dat (.int 10240))]⟩
noncomputable def Dp:Cl:=⟨230,[([95,95,99,111,110,116,97,105,110,115,95,95],199),([104,97,115,95,107,101,121,115,95,119,105,116,104,95,112,114,101,102,105,120],220),([108,111,110,103,101,115,116,95,112,114,101,102,105,120],227)],
 [Oq,Os,v6,pI],[]⟩
noncomputable def gS:Cl:=⟨762,[(aAr,261),([95,95,105,116,101,114,95,95],268),([99,111,110,115,117,109,101,78,117,109,98,101,114,69,110,116,105,116,121],275),([99,111,110,115,117,109,101,69,110,116,105,116,121],283),([112,114,111,99,101,115,115,69,110,116,105,116,121,73,110,65,116,116,114,105,98,117,116,101],290),([101,109,105,116,67,117,114,114,101,110,116,84,111,107,101,110],297),([100,97,116,97,83,116,97,116,101],304),([101,110,116,105,116,121,68,97,116,97,83,116,97,116,101],311),([114,99,100,97,116,97,83,116,97,116,101],318),([99,104,97,114,97,99,116,101,114,82,101,102,101,114,101,110,99,101,73,110,82,99,100,97,116,97],325),([116,97,103,79,112,101,110,83,116,97,116,101],353),([116,97,103,78,97,109,101,83,116,97,116,101],367),([114,99,100,97,116,97,76,101,115,115,84,104,97,110,83,105,103,110,83,116,97,116,101],374),([98,101,102,111,114,101,65,116,116,114,105,98,117,116,101,78,97,109,101,83,116,97,116,101],535),([97,116,116,114,105,98,117,116,101,78,97,109,101,83,116,97,116,101],542),([98,101,102,111,114,101,65,116,116,114,105,98,117,116,101,86,97,108,117,101,83,116,97,116,101],556),([97,116,116,114,105,98,117,116,101,86,97,108,117,101,68,111,117,98,108,101,81,117,111,116,101,100,83,116,97,116,101],563),([97,116,116,114,105,98,117,116,101,86,97,108,117,101,83,105,110,103,108,101,81,117,111,116,101,100,83,116,97,116,101],570),([97,116,116,114,105,98,117,116,101,86,97,108,117,101,85,110,81,117,111,116,101,100,83,116,97,116,101],577),([97,102,116,101,114,65,116,116,114,105,98,117,116,101,86,97,108,117,101,83,116,97,116,101],584)],
 [Dm,Dn,rD,mD,JF,Do,nU,rE,jZ],[]⟩
noncomputable def fS:D:=.lst [.str [65,77,80],.str [65,77,80,59],.str [69,97,99,117,116,101],.str [69,97,99,117,116,101,59],.str [77,111,112,102,59],.str [97,99,59],.str [97,99,69,59],.str [97,99,117,116,101],.str [97,99,117,116,101,59],.str [97,109,112],.str [97,109,112,59],.str [97,110,103,59],.str [97,110,103,108,101,59],.str [98,110,101,59],.str [99,111,112,121],.str [99,111,112,121,59],.str [101,97,99,117,116,101],.str [101,97,99,117,116,101,59],.str [102,114,97,99,49,50],.str [102,114,97,99,49,50,59],.str [103,116],.str [103,116,59],.str [108,116],.str [108,116,59],.str [110,98,115,112],.str [110,98,115,112,59],.str [110,111,116],.str [110,111,116,59],.str [110,111,116,105,110,59],.str [110,111,116,110,105,59],.str [112,97,114,97],.str [112,97,114,97,59],.str [112,97,114,97,108,108,101,108,59],.str [113,117,111,116],.str [113,117,111,116,59],.str [115,117,112,49],.str [115,117,112,49,59],.str [115,117,112,50],.str [115,117,112,50,59],.str [115,117,112,59],.str [116,105,109,101,115],.str [116,105,109,101,115,59],.str [116,105,109,101,115,98,59]]
noncomputable def mQ:Gam:=⟨[([95,119,97,108,108],.top 21),
 ([69,79,70],.dat UB),
 ([115,112,97,99,101,67,104,97,114,97,99,116,101,114,115],.dat b0),
 ([97,115,99,105,105,76,101,116,116,101,114,115],.dat hM),
 ([100,105,103,105,116,115],.dat nV),
 ([104,101,120,68,105,103,105,116,115],.dat hP),
 ([97,115,99,105,105,76,111,119,101,114],.top 42),
 (aAu,.dat aR),
 (aAq,.dat eY),
 ([116,97,103,84,111,107,101,110,84,121,112,101,115],.dat mF),
 ([84,101,120,116],.top 73),
 ([95,105,115,95,105,110,118,97,108,105,100],.top 84),
 ([72,84,77,76,85,110,105,99,111,100,101,73,110,112,117,116,83,116,114,101,97,109],.top 166),
 ([98,105,115,101,99,116,95,108,101,102,116],.top 178),
 ([84,114,105,101],.top 230),
 ([72,84,77,76,84,111,107,101,110,105,122,101,114],.top 762),
 ([95,108,97,119,95,85,78,73,84,83],.top 773),
 ([95,108,97,119,95,72,69,65,68,83],.top 780),
 ([95,108,97,119,95,84,65,73,76,83],.top 787),
 ([95,108,97,119,95,83,84,79,80,83],.top 794),
 ([95,108,97,119,95,67,76,79,83,69],.dat j0),
 ([95,108,97,119,95,84,69,78,83],.dat tI),
 ([95,108,97,119,95,83,73,88,84,69,69,78,83],.dat mG),
 ([95,108,97,119,95,117,110,105,116],.top 801),
 ([95,108,97,119,95,108,111,110,103,101,115,116],.top 808),
 ([95,108,97,119,95,97,109,111,110,103],.top 815),
 ([95,108,97,119,95,115,105,120,116,101,101,110],.top 822),
 ([95,108,97,119,95,98,97,114,101],.top 829),
 ([95,108,97,119,95,119,114,105,116,116,101,110],.top 834),
 ([108,97,119],.top 839),
 ([101,110,116,105,116,105,101,115,84,114,105,101],.top 236),
 ([114,101,112,108,97,99,101,109,101,110,116,67,104,97,114,97,99,116,101,114,115],.top 46)],[Ot,fR,Dp,gS],[⟨236,230,235,[(aA1,.dat aR),(aAz,.dat fS),(aAo,.dat (.str [])),(aAk,.dat (.tup [.int 0,.int 43]))]⟩],[(283,aAy,[aAi,aAh])],[([108,101,110],.blt "len"),([111,114,100],.blt "ord"),([99,104,114],.blt "chr"),([109,97,120],.blt "max"),([115,117,109],.blt "sum"),([114,97,110,103,101],.typ "range"),([100,105,99,116],.typ "dict"),([105,110,116],.typ "int"),([115,116,114],.typ "str"),([75,101,121,69,114,114,111,114],.typ "KeyError")]⟩
noncomputable abbrev iO:Program:=PySem.Challenge.pw_te0044_02
noncomputable def rF:List (Nat×List Nat×List V):=[(42,[7],[]),
 (63,[13,0],[]),
 (70,[13,1],[]),
 (84,[14],[]),
 (98,[15,1],[]),
 (105,[15,2],[]),
 (112,[15,3],[]),
 (119,[15,4],[]),
 (126,[15,5],[]),
 (133,[15,6],[]),
 (141,[15,7],[.dat .non]),
 (148,[15,8],[]),
 (156,[15,9],[.dat (.boo false)]),
 (163,[15,10],[]),
 (178,[17],[.dat (.int 0),.dat .non]),
 (199,[18,1],[]),
 (220,[18,4],[]),
 (227,[18,5],[]),
 (261,[21,0],[.dat .non]),
 (275,[21,2],[]),
 (283,[21,3],[.dat .non,.dat (.boo false)]),
 (290,[21,4],[]),
 (297,[21,5],[]),
 (304,[21,6],[]),
 (311,[21,7],[]),
 (318,[21,8],[]),
 (325,[21,9],[]),
 (353,[21,13],[]),
 (367,[21,15],[]),
 (374,[21,16],[]),
 (535,[21,39],[]),
 (542,[21,40],[]),
 (556,[21,42],[]),
 (563,[21,43],[]),
 (570,[21,44],[]),
 (577,[21,45],[]),
 (584,[21,46],[]),
 (773,[23],[]),
 (780,[24],[]),
 (787,[25],[]),
 (794,[26],[]),
 (801,[30],[]),
 (808,[31],[]),
 (815,[32],[]),
 (822,[33],[]),
 (829,[34],[]),
 (834,[35],[]),
 (839,[36],[])]
noncomputable def JG:List (Nat×Fn):=rF.map λx=>(x.1,iM iO x.2.1 x.2.2)
noncomputable def Aw:Nat×List Nat:=(268,[21,1])
noncomputable abbrev bS:=Zc iO mQ JG
end
section
noncomputable def rG:PySem.W.BT→Nat→List Obj→Option PySem.W.BT
 |t,_,[]=>some t
 |t,n,o::r=>match((t.ins n o).get n).isSome with
  |true=>rG (t.ins n o) (n+1) r
  |false=>none
theorem nX {life:Life}:∀ (l:List Obj) (t t':PySem.W.BT) (n:Nat),rG t n l=some t'→
  absHeap t' (n+l.length) life=⟨(absHeap t n life).objs++l.toArray,life⟩
 | [],t,t',n,h=>by
  cases h
  show absHeap t n life=_
  simp[absHeap,PySem.W.BT.list]
 |o::r,t,t',n,h=>by
  have h:(match((t.ins n o).get n).isSome with|true=>rG (t.ins n o) (n+1) r|false=>none)=some t':=h
  cases g:((t.ins n o).get n).isSome with
  |false=>rw[g]at h;cases h
  |true=>
   rw[g]at h
   have ih:=nX (life:=life) r (t.ins n o) t' (n+1) h
   rw[absHeap_ins g]at ih
   have e:n+(o::r).length=n+1+r.length:=by simp only[B3];lia
   rw[e,ih]
   show Heap.mk _ _=Heap.mk _ _
   congr 1
   show((absHeap t n life).objs.push o)++r.toArray=_
   rw[← Array.toList_inj]
   simp
noncomputable def XD (s:Shared):Option SharedT:=match rG .nil 0 s.heap.objs.toList with
 |some t=>some ⟨t,s.heap.objs.size,s.heap.life,s.gens,s.drawn,s.toks,s.os⟩
 |none=>none
set_option tactic.hygienic true in
theorem JH {s:Shared}{T:SharedT}(h:XD s=some T):T.abs=s:=by
 unfold XD at h
 split at h
 ·rename_i t e
  cases h
  have:=nX (life:=s.heap.life) _ _ _ _ e
  obtain⟨⟨objs,life⟩,gens,drawn,toks,os⟩:=s
  show Shared.mk (absHeap t objs.size life) gens drawn toks os=_
  dsimp only at this
  rw[Nat.zero_add,Array.length_toList]at this
  rw[this]
  simp[absHeap,PySem.W.BT.list]
 ·cases h
noncomputable def runT (stp:SharedT→Thread→Option (SharedT×Thread))(ok:Thread→Bool):Nat→SharedT→Thread→Option SharedT
 |0,_,_=>none
 |n+1,s,t=>match through t with
  |true=>some s
  |false=>match ok t with
   |false=>none
   |true=>match stp s t with
    |some (s',t')=>runT stp ok n s' t'
    |none=>none
theorem qD {tb:String→Option Builtin}{p:Program}{w:World}{n₀:Nat}{ann:Option Value}:∀ (n:Nat) (s s':SharedT) (t:Thread),
  runT (stepT (denote tb) p w) (stepOk n₀ ann) n s t=some s'→topRun tb p w n₀ ann n s.abs t=some s'.abs
 |0,_,_,_,h=>by cases h
 |n+1,s,s',t,h=>by
  unfold runT at h
  unfold topRun
  cases ht:through t with
  |true=>rw[ht]at h;cases h;rfl
  |false=>
   rw[ht]at h
   cases hk:stepOk n₀ ann t with
   |false=>rw[hk]at h;cases h
   |true=>
    rw[hk]at h
    cases hs:stepT (denote tb) p w s t with
    |none=>rw[hs]at h;cases h
    |some r=>obtain⟨s₂,t₂⟩:=r;rw[hs]at h;rw[stepT_spec hs];exact qD n _ _ _ h
noncomputable def Ou (fenced:Option Shared)(stp:SharedT→Thread→Option (SharedT×Thread))(ok:Nat→Option Value→Thread→Bool)(nsm:Heap→Addr→Str→Option Value)
  (stub:Thread)(stat:Heap→Heap→Bool)(nb:Heap→Bool)(gd:Shared→Bool)(lk:Heap→Heap→Bool)(N:Nat):Option SharedT:=
 match fenced with
 |none=>none
 |some s₀=>match s₀.heap.isNs mainGlobals&&s₀.gens.size==0 with
  |false=>none
  |true=>match XD s₀ with
   |none=>none
   |some T=>match runT stp (ok s₀.heap.objs.size (nsm s₀.heap mainGlobals "__annotations__")) N T stub with
    |none=>none
    |some T'=>match stat s₀.heap T'.abs.heap&&nb T'.abs.heap&&gd T'.abs&&lk s₀.heap T'.abs.heap with
     |true=>some T'
     |false=>none
theorem Ax {p:Program}{w:World}{N:Nat}{T':SharedT}
  (h:Ou (fencedOpening treeTable p w N) (stepT (denote treeTable) p w) stepOk Heap.nsMap (topStub p) (staticsOk (importedModules p.main.body)) (namesBound p) gensDone laidKept N=some T'):
  openEnds treeTable p w N=some T'.abs:=by
 unfold Ou at h
 unfold openEnds
 cases h0:fencedOpening treeTable p w N with
 |none=>rw[h0]at h;cases h
 |some s₀=>
  rw[h0]at h
  dsimp only at h
  rw[Option.bind_some]
  unfold topFrom
  cases hg:(s₀.heap.isNs mainGlobals&&s₀.gens.size==0)with
  |false=>rw[hg]at h;cases h
  |true=>
   rw[hg]at h
   dsimp only at h ⊢
   cases hT:XD s₀ with
   |none=>rw[hT]at h;cases h
   |some T=>
    rw[hT]at h
    dsimp only at h
    cases hr:runT (stepT (denote treeTable) p w) (stepOk s₀.heap.objs.size (s₀.heap.nsMap mainGlobals "__annotations__")) N T (topStub p)with
    |none=>rw[hr]at h;cases h
    |some T₁=>
     rw[hr]at h
     dsimp only at h
     have e:=qD _ _ _ _ hr
     rw[JH hT]at e
     rw[e,Option.bind_some]
     cases hc:(staticsOk (importedModules p.main.body) s₀.heap T₁.abs.heap&&namesBound p T₁.abs.heap&&gensDone T₁.abs&&laidKept s₀.heap T₁.abs.heap)with
     |false=>rw[hc]at h;cases h
     |true=>rw[hc]at h;dsimp only at h ⊢;rw[A9 h]
noncomputable def tJ (as:List Nat)(T:SharedT):Frag:=as.filterMap λa=>match Nat.blt a T.n with
 |true=>(alive ((T.tree.get a).getD default)).map λo=>(a,o)
 |false=>none
noncomputable def k9 (as:List Nat)(s:Shared):Frag:=as.filterMap λa=>(s.heap.get? a).map λo=>(a,o)
theorem yS (as:List Nat)(T:SharedT):tJ as T=k9 as T.abs:=by
 unfold tJ k9
 congr 1
 funext a
 show _=((absHeap T.tree T.n T.life).get? a).map _
 unfold Heap.get?
 rw[absHeap_at]
 cases h:Nat.blt a T.n with
 |false=>
  have:¬ a<T.n:=λq=>by
   have:=Nat.ble_eq.mpr (show a+1≤T.n from q)
   rw[show Nat.blt a T.n=Nat.ble (a+1) T.n from rfl]at h
   rw[h]at this;cases this
  rw[if_neg this];rfl
 |true=>
  have:a<T.n:=A3 h
  rw[if_pos this]
  dsimp only
  generalize (T.tree.get a).getD default=o
  obtain⟨c,d,dt,sl⟩:=o
  cases dt <;>rfl
theorem Ov {as:List Nat}{s:Shared}{a:Addr}{o:Obj}(h:(k9 as s).lookup a=some o):s.heap.get? a=some o:=by
 unfold k9 at h
 induction as with
 |nil=>cases h
 |cons b as ih=>
  rw[List.filterMap_cons]at h
  cases e:s.heap.get? b with
  |none=>rw[e]at h;exact ih h
  |some o'=>
   rw[e]at h
   dsimp only[Option.map_some]at h
   rw[List.lookup_cons]at h
   cases q:a==b with
   |true=>rw[q]at h;cases h;rw[beq_iff_eq.mp q];exact e
   |false=>rw[q]at h;exact ih h
noncomputable abbrev UC:=PySem.W.Fast.tw11892475500146522536
noncomputable abbrev JI:=PySem.W.Fast.tw14364793385576792824
noncomputable abbrev Dq:=PySem.W.Fast.tw10156331382660048174
noncomputable abbrev Ze:=PySem.W.Fast.tw6613529449190102663
noncomputable abbrev Zf:=PySem.W.Fast.tw8920871248978507458
noncomputable abbrev UD:=PySem.W.Fast.tw10274390034422433532
noncomputable abbrev UE:=PySem.W.Fast.tw14289696077712309145
noncomputable abbrev Ow:=PySem.W.Fast.tw1435165496053646825
noncomputable abbrev yT:=PySem.W.Fast.tw4187177175401517315
noncomputable def YJ (p:Program)(w:World)(N:Nat):Option Shared:=(UD JI (opening p) w N (Ow (opening p)).1 (Ow (opening p)).2).bind (UE p)
noncomputable def Dr (p:Program)(w:World)(N:Nat):Option SharedT:=Ou (YJ p w N) (Dq (UC JI) p w) Ze Zf (topStub p) (staticsOk (importedModules p.main.body)) (namesBound p) gensDone laidKept N
theorem Ox (p:Program)(w:World)(N:Nat):YJ p w N=fencedOpening treeTable p w N:=by
 unfold YJ fencedOpening
 have e1: @importEnds=UD:=PySem.W.Fast.te10274390034422433532
 have e2: @treeTable=JI:=PySem.W.Fast.te14364793385576792824
 have e3: @start=Ow:=PySem.W.Fast.te1435165496053646825
 have e4: @fenceModules?=UE:=PySem.W.Fast.te14289696077712309145
 rw[e1,e2,e3,e4]
theorem Ay {p:Program}{w:World}{N:Nat}{T':SharedT}(h:Dr p w N=some T'):openEnds treeTable p w N=some T'.abs:=by
 refine Ax ?_
 unfold Dr at h
 rw[Ox]at h
 have e1: @stepT=Dq:=PySem.W.Fast.te10156331382660048174
 have e2: @treeTable=JI:=PySem.W.Fast.te14364793385576792824
 have e3: @denote=UC:=PySem.W.Fast.te11892475500146522536
 have e4: @stepOk=Ze:=PySem.W.Fast.te6613529449190102663
 have e5: @Heap.nsMap=Zf:=PySem.W.Fast.te8920871248978507458
 rw[e1,e3,e4,e5]
 rw[← e2]at h
 exact h
theorem Ds (T:SharedT):T.abs.heap.objs.size=T.n:=by
 show(absHeap T.tree T.n T.life).objs.size=T.n
 simp[absHeap,PySem.W.BT.list]
theorem JJ {p q:Program}{loose:List Str}{α:Type}{N:Nat}{row:String}{as bs:List Nat}{see:Frag→Frag→Nat→Nat→α}{told:World→α}
  (h:∀ (w:World) (b:Bool),(Dr p (w.withFollow row b) N).map (λT=>(yT q loose (importedModules p.main.body) (λ_=>true) true T.abs,see (tJ as T) (tJ bs T) T.toks T.n))=some (openGood q loose,told (w.withFollow row b))):
  LeftO p q loose (λ_=>true) (λs=>see (k9 as s) (k9 bs s) s.toks s.heap.objs.size) told N:=by
 have k:∀ (w:World) (b:Bool),(openEnds treeTable p (w.withFollow row b) N).map (λs=>(openSeen q loose (importedModules p.main.body) (λ_=>true) true s,see (k9 as s) (k9 bs s) s.toks s.heap.objs.size))=some (openGood q loose,told (w.withFollow row b)):=λw b=>by
  obtain⟨T,e1,e2⟩:=Option.map_eq_some_iff.mp (h w b)
  rw[Ay e1,Option.map_some]
  have e6: @openSeen=yT:=PySem.W.Fast.te4187177175401517315
  rw[e6,← e2,yS,yS,Ds]
  rfl
 exact byRow2 row (P:=λw=>(openEnds treeTable p w N).map (λs=>(openSeen q loose (importedModules p.main.body) (λ_=>true) true s,see (k9 as s) (k9 bs s) s.toks s.heap.objs.size))=some (openGood q loose,told w)) (λw=>k w false) (λw=>k w true)
end
section
noncomputable def qE (l:List Nat):List Stmt→Str×Str:= @List.rec Nat (λ_=>List Stmt→Str×Str) (λ_=>(st [],st [])) (λi r ih b=>bif r.isEmpty then(match SZ (bV b i)with|some x=>(x.1,x.1)|none=>(st [],st []))else match Sa (bV b i)with|some x=>((ih x.2).1,x.1++"." ++(ih x.2).2)|none=>(st [],st [])) l
noncomputable def YK (a:Nat):Value:=match Nat.blt a 50 with
 |true=>.str (Str.ofString "html5lib.constants") 194
 |false=>match Nat.blt a 170 with
  |true=>.str (Str.ofString "html5lib._inputstream") 564
  |false=>match Nat.blt a 254 with
   |true=>.str (Str.ofString "html5lib._trie.py") 738
   |false=>match Nat.blt a 765 with
    |true=>.str (Str.ofString "html5lib._tokenizer") 827
    |false=>.str (Str.ofString "law_te0044_02") 1451
noncomputable def YL (a:Nat)(ds:List V):Value:=match ds with
 | []=>.none
 |_=>.ref (a-7)
noncomputable abbrev Pl:=Nat×List Nat×List V
noncomputable def jB (x:Pl):Option FuncData:=(Dh x.2.1 iO.main.body).map λd=>
 {name:=(qE x.2.1 iO.main.body).1,qualname:=(qE x.2.1 iO.main.body).2,params:=d.1,body:=.stmts d.2.2,scope:=d.2.1,globals:=mainGlobals,closure:=[],defaults:=YL x.1 x.2.2,kwdefaults:=.none,
  pyModule:=YK x.1,code:=.ref (x.1-1),builtins:=builtinsNs}
noncomputable def MR (x:Pl):Nat×Obj:=(x.1,match jB x with
 |some fd=>⟨.type "function",none,.func fd,#[]⟩
 |none=>default)
noncomputable def lA:List Pl:=(Aw.1,Aw.2,[])::rF
noncomputable def ke (P:Params)(n:String)(t:Nat)(v:Value):DictEntry:=⟨PyData.keyHash P (Str.ofString n),.str (Str.ofString n) t,v⟩
noncomputable def ki (i:Int)(t:Nat)(v:Value):DictEntry:=⟨hashInt i,.int i t,v⟩
noncomputable def UG (P:Params):Frag:=[(3,⟨.type "dict",none,.dict #[ke P "__name__" 165 (.str (Str.ofString "law_te0044_02") 1451),ke P "__doc__" 166 (.none),ke P "__package__" 167 (.none),ke P "__loader__" 168 (.builtin "__main__.__loader__#opaque"),ke P "__spec__" 169 (.none),ke P "__annotations__" 170 (.ref 6),ke P "__builtins__" 171 (.ref 4),ke P "__file__" 173 (.str (Str.ofString "/claim/cut.py") 172),ke P "__cached__" 174 (.none),ke P "_wall" 193 (.ref 21),ke P "EOF" 196 (.none),ke P "spaceCharacters" 202 (.ref 22),ke P "asciiLetters" 256 (.ref 27),ke P "digits" 268 (.ref 32),ke P "hexDigits" 292 (.ref 37),ke P "asciiLower" 298 (.ref 42),ke P "entities" 428 (.ref 43),ke P "replacementCharacters" 531 (.ref 46),ke P "tokenTypes" 556 (.ref 48),ke P "tagTokenTypes" 563 (.ref 49),ke P "Text" 604 (.ref 73),ke P "_is_invalid" 611 (.ref 84),ke P "HTMLUnicodeInputStream" 737 (.ref 166),ke P "bisect_left" 751 (.ref 178),ke P "Trie" 826 (.ref 230),ke P "entitiesTrie" 843 (.ref 236),ke P "HTMLTokenizer" 1450 (.ref 762),ke P "_law_UNITS" 1458 (.ref 773),ke P "_law_HEADS" 1464 (.ref 780),ke P "_law_TAILS" 1470 (.ref 787),ke P "_law_STOPS" 1476 (.ref 794),ke P "_law_CLOSE" 1478 (.str (Str.ofString "=0123456789ABCDEFGHIJKLMNOPQRSTUVWXYZabcdefghijklmnopqrstuvwxyz") 1477),ke P "_law_TENS" 1480 (.str (Str.ofString "0123456789") 1479),ke P "_law_SIXTEENS" 1482 (.str (Str.ofString "0123456789abcdefABCDEF") 1481),ke P "_law_unit" 1490 (.ref 801),ke P "_law_longest" 1499 (.ref 808),ke P "_law_among" 1507 (.ref 815),ke P "_law_sixteen" 1515 (.ref 822),ke P "_law_bare" 1524 (.ref 829),ke P "_law_written" 1530 (.ref 834),ke P "law" 1536 (.ref 839)] 41,#[]⟩),
 (72,⟨.type "dict",none,.dict #[ke P "__module__" 573 (.str (Str.ofString "html5lib._inputstream") 564),ke P "__firstlineno__" 577 (.int 17 576),ke P "__init__" 585 (.ref 63),ke P "read" 594 (.ref 70),ke P "__static_attributes__" 597 (.ref 71),ke P "__dict__" 599 (.ref 74),ke P "__weakref__" 601 (.ref 75),ke P "__doc__" 602 (.none)] 4,#[]⟩),
 (73,⟨.type "type",none,.cls {name:=Str.ofString "Text",bases:=[.type "object"],mro:=[.ref 73,.type "object"],ns:=72,qualname:=Str.ofString "Text"},#[some (.ref 50),none,some (.str (Str.ofString "Text") 566),some (.str (Str.ofString "Text") 574),some (.builtin "object.__new__"),some (.bool true)]⟩),
 (165,⟨.type "dict",none,.dict #[ke P "__module__" 619 (.str (Str.ofString "html5lib._inputstream") 564),ke P "__firstlineno__" 623 (.int 29 622),ke P "_defaultChunkSize" 625 (.int 10240 624),ke P "__init__" 633 (.ref 98),ke P "reset" 640 (.ref 105),ke P "openStream" 649 (.ref 112),ke P "_position" 662 (.ref 119),ke P "position" 671 (.ref 126),ke P "char" 680 (.ref 133),ke P "readChunk" 690 (.ref 141),ke P "characterErrorsUCS4" 699 (.ref 148),ke P "charsUntil" 711 (.ref 156),ke P "unget" 719 (.ref 163),ke P "__static_attributes__" 730 (.ref 164),ke P "__dict__" 732 (.ref 167),ke P "__weakref__" 734 (.ref 168),ke P "__doc__" 735 (.none)] 4,#[]⟩),
 (166,⟨.type "type",none,.cls {name:=Str.ofString "HTMLUnicodeInputStream",bases:=[.type "object"],mro:=[.ref 166,.type "object"],ns:=165,qualname:=Str.ofString "HTMLUnicodeInputStream"},#[some (.ref 85),none,some (.str (Str.ofString "HTMLUnicodeInputStream") 612),some (.str (Str.ofString "HTMLUnicodeInputStream") 620),some (.builtin "object.__new__"),some (.bool true)]⟩),
 (229,⟨.type "dict",none,.dict #[ke P "__module__" 759 (.str (Str.ofString "html5lib._trie.py") 738),ke P "__firstlineno__" 763 (.int 144 762),ke P "__init__" 771 (.ref 192),ke P "__contains__" 779 (.ref 199),ke P "__len__" 786 (.ref 206),ke P "__getitem__" 794 (.ref 213),ke P "has_keys_with_prefix" 805 (.ref 220),ke P "longest_prefix" 814 (.ref 227),ke P "__static_attributes__" 819 (.ref 228),ke P "__dict__" 821 (.ref 231),ke P "__weakref__" 823 (.ref 232),ke P "__doc__" 824 (.none)] 4,#[]⟩),
 (230,⟨.type "type",none,.cls {name:=Str.ofString "Trie",bases:=[.type "object"],mro:=[.ref 230,.type "object"],ns:=229,qualname:=Str.ofString "Trie"},#[some (.ref 179),none,some (.str (Str.ofString "Trie") 752),some (.str (Str.ofString "Trie") 760),some (.builtin "object.__new__"),some (.bool true)]⟩),
 (761,⟨.type "dict",none,.dict #[ke P "__module__" 851 (.str (Str.ofString "html5lib._tokenizer") 827),ke P "__firstlineno__" 855 (.int 182 854),ke P "__init__" 864 (.ref 261),ke P "__iter__" 871 (.ref 268),ke P "consumeNumberEntity" 886 (.ref 275),ke P "consumeEntity" 901 (.ref 283),ke P "processEntityInAttribute" 909 (.ref 290),ke P "emitCurrentToken" 919 (.ref 297),ke P "dataState" 928 (.ref 304),ke P "entityDataState" 935 (.ref 311),ke P "rcdataState" 944 (.ref 318),ke P "characterReferenceInRcdata" 951 (.ref 325),ke P "rawtextState" 958 (.ref 332),ke P "scriptDataState" 965 (.ref 339),ke P "plaintextState" 972 (.ref 346),ke P "tagOpenState" 980 (.ref 353),ke P "closeTagOpenState" 988 (.ref 360),ke P "tagNameState" 996 (.ref 367),ke P "rcdataLessThanSignState" 1004 (.ref 374),ke P "rcdataEndTagOpenState" 1012 (.ref 381),ke P "rcdataEndTagNameState" 1021 (.ref 388),ke P "rawtextLessThanSignState" 1028 (.ref 395),ke P "rawtextEndTagOpenState" 1035 (.ref 402),ke P "rawtextEndTagNameState" 1042 (.ref 409),ke P "scriptDataLessThanSignState" 1049 (.ref 416),ke P "scriptDataEndTagOpenState" 1056 (.ref 423),ke P "scriptDataEndTagNameState" 1063 (.ref 430),ke P "scriptDataEscapeStartState" 1070 (.ref 437),ke P "scriptDataEscapeStartDashState" 1077 (.ref 444),ke P "scriptDataEscapedState" 1084 (.ref 451),ke P "scriptDataEscapedDashState" 1091 (.ref 458),ke P "scriptDataEscapedDashDashState" 1098 (.ref 465),ke P "scriptDataEscapedLessThanSignState" 1105 (.ref 472),ke P "scriptDataEscapedEndTagOpenState" 1112 (.ref 479),ke P "scriptDataEscapedEndTagNameState" 1119 (.ref 486),ke P "scriptDataDoubleEscapeStartState" 1126 (.ref 493),ke P "scriptDataDoubleEscapedState" 1133 (.ref 500),ke P "scriptDataDoubleEscapedDashState" 1140 (.ref 507),ke P "scriptDataDoubleEscapedDashDashState" 1147 (.ref 514),ke P "scriptDataDoubleEscapedLessThanSignState" 1154 (.ref 521),ke P "scriptDataDoubleEscapeEndState" 1161 (.ref 528),ke P "beforeAttributeNameState" 1169 (.ref 535),ke P "attributeNameState" 1181 (.ref 542),ke P "afterAttributeNameState" 1189 (.ref 549),ke P "beforeAttributeValueState" 1197 (.ref 556),ke P "attributeValueDoubleQuotedState" 1205 (.ref 563),ke P "attributeValueSingleQuotedState" 1213 (.ref 570),ke P "attributeValueUnQuotedState" 1221 (.ref 577),ke P "afterAttributeValueState" 1229 (.ref 584),ke P "selfClosingStartTagState" 1237 (.ref 591),ke P "bogusCommentState" 1245 (.ref 598),ke P "markupDeclarationOpenState" 1255 (.ref 605),ke P "commentStartState" 1263 (.ref 612),ke P "commentStartDashState" 1271 (.ref 619),ke P "commentState" 1279 (.ref 626),ke P "commentEndDashState" 1287 (.ref 633),ke P "commentEndState" 1295 (.ref 640),ke P "commentEndBangState" 1303 (.ref 647),ke P "doctypeState" 1311 (.ref 654),ke P "beforeDoctypeNameState" 1319 (.ref 661),ke P "doctypeNameState" 1327 (.ref 668),ke P "afterDoctypeNameState" 1337 (.ref 675),ke P "afterDoctypePublicKeywordState" 1345 (.ref 682),ke P "beforeDoctypePublicIdentifierState" 1353 (.ref 689),ke P "doctypePublicIdentifierDoubleQuotedState" 1361 (.ref 696),ke P "doctypePublicIdentifierSingleQuotedState" 1369 (.ref 703),ke P "afterDoctypePublicIdentifierState" 1377 (.ref 710),ke P "betweenDoctypePublicAndSystemIdentifiersState" 1385 (.ref 717),ke P "afterDoctypeSystemKeywordState" 1393 (.ref 724),ke P "beforeDoctypeSystemIdentifierState" 1401 (.ref 731),ke P "doctypeSystemIdentifierDoubleQuotedState" 1409 (.ref 738),ke P "doctypeSystemIdentifierSingleQuotedState" 1417 (.ref 745),ke P "afterDoctypeSystemIdentifierState" 1425 (.ref 752),ke P "bogusDoctypeState" 1433 (.ref 759),ke P "__static_attributes__" 1443 (.ref 760),ke P "__dict__" 1445 (.ref 763),ke P "__weakref__" 1447 (.ref 764),ke P "__doc__" 1448 (.none)] 4,#[]⟩),
 (762,⟨.type "type",none,.cls {name:=Str.ofString "HTMLTokenizer",bases:=[.type "object"],mro:=[.ref 762,.type "object"],ns:=761,qualname:=Str.ofString "HTMLTokenizer"},#[some (.ref 247),none,some (.str (Str.ofString "HTMLTokenizer") 844),some (.str (Str.ofString "HTMLTokenizer") 852),some (.builtin "object.__new__"),some (.bool true)]⟩),
 (1,⟨.type "dict",none,.dict #[ke P "builtins" 162 (.ref 4),ke P "__main__" 163 (.ref 5)] 2,#[]⟩),
 (2,⟨.none,none,.dict #[] 0,#[]⟩),
 (22,⟨.type "tuple",none,.seq #[.str (Str.ofString "\t") 197,.str (Str.ofString "\n") 198,.str (Str.ofString "\x0c") 199,.str (Str.ofString " ") 200,.str (Str.ofString "\x0d") 201] 0,#[]⟩),
 (27,⟨.type "tuple",none,.seq #[.str (Str.ofString "a") 204,.str (Str.ofString "b") 205,.str (Str.ofString "c") 206,.str (Str.ofString "d") 207,.str (Str.ofString "e") 208,.str (Str.ofString "f") 209,.str (Str.ofString "g") 210,.str (Str.ofString "h") 211,.str (Str.ofString "i") 212,.str (Str.ofString "j") 213,.str (Str.ofString "k") 214,.str (Str.ofString "l") 215,.str (Str.ofString "m") 216,.str (Str.ofString "n") 217,.str (Str.ofString "o") 218,.str (Str.ofString "p") 219,.str (Str.ofString "q") 220,.str (Str.ofString "r") 221,.str (Str.ofString "s") 222,.str (Str.ofString "t") 223,.str (Str.ofString "u") 224,.str (Str.ofString "v") 225,.str (Str.ofString "w") 226,.str (Str.ofString "x") 227,.str (Str.ofString "y") 228,.str (Str.ofString "z") 229,.str (Str.ofString "A") 230,.str (Str.ofString "B") 231,.str (Str.ofString "C") 232,.str (Str.ofString "D") 233,.str (Str.ofString "E") 234,.str (Str.ofString "F") 235,.str (Str.ofString "G") 236,.str (Str.ofString "H") 237,.str (Str.ofString "I") 238,.str (Str.ofString "J") 239,.str (Str.ofString "K") 240,.str (Str.ofString "L") 241,.str (Str.ofString "M") 242,.str (Str.ofString "N") 243,.str (Str.ofString "O") 244,.str (Str.ofString "P") 245,.str (Str.ofString "Q") 246,.str (Str.ofString "R") 247,.str (Str.ofString "S") 248,.str (Str.ofString "T") 249,.str (Str.ofString "U") 250,.str (Str.ofString "V") 251,.str (Str.ofString "W") 252,.str (Str.ofString "X") 253,.str (Str.ofString "Y") 254,.str (Str.ofString "Z") 255] 0,#[]⟩),
 (32,⟨.type "tuple",none,.seq #[.str (Str.ofString "0") 258,.str (Str.ofString "1") 259,.str (Str.ofString "2") 260,.str (Str.ofString "3") 261,.str (Str.ofString "4") 262,.str (Str.ofString "5") 263,.str (Str.ofString "6") 264,.str (Str.ofString "7") 265,.str (Str.ofString "8") 266,.str (Str.ofString "9") 267] 0,#[]⟩),
 (37,⟨.type "tuple",none,.seq #[.str (Str.ofString "0") 270,.str (Str.ofString "1") 271,.str (Str.ofString "2") 272,.str (Str.ofString "3") 273,.str (Str.ofString "4") 274,.str (Str.ofString "5") 275,.str (Str.ofString "6") 276,.str (Str.ofString "7") 277,.str (Str.ofString "8") 278,.str (Str.ofString "9") 279,.str (Str.ofString "a") 280,.str (Str.ofString "b") 281,.str (Str.ofString "c") 282,.str (Str.ofString "d") 283,.str (Str.ofString "e") 284,.str (Str.ofString "f") 285,.str (Str.ofString "A") 286,.str (Str.ofString "B") 287,.str (Str.ofString "C") 288,.str (Str.ofString "D") 289,.str (Str.ofString "E") 290,.str (Str.ofString "F") 291] 0,#[]⟩),
 (49,⟨.type "tuple",none,.seq #[.int 3 539,.int 4 541,.int 5 543] 0,#[]⟩),
 (134,⟨.type "tuple",none,.seq #[.none] 0,#[]⟩),
 (149,⟨.type "tuple",none,.seq #[.bool false] 0,#[]⟩),
 (171,⟨.type "tuple",none,.seq #[.int 0 740,.none] 0,#[]⟩),
 (243,⟨.type "list",none,.seq #[.str (Str.ofString "AMP") 299,.str (Str.ofString "AMP;") 302,.str (Str.ofString "Eacute") 305,.str (Str.ofString "Eacute;") 308,.str (Str.ofString "Mopf;") 311,.str (Str.ofString "ac;") 314,.str (Str.ofString "acE;") 317,.str (Str.ofString "acute") 320,.str (Str.ofString "acute;") 323,.str (Str.ofString "amp") 326,.str (Str.ofString "amp;") 329,.str (Str.ofString "ang;") 332,.str (Str.ofString "angle;") 335,.str (Str.ofString "bne;") 338,.str (Str.ofString "copy") 341,.str (Str.ofString "copy;") 344,.str (Str.ofString "eacute") 347,.str (Str.ofString "eacute;") 350,.str (Str.ofString "frac12") 353,.str (Str.ofString "frac12;") 356,.str (Str.ofString "gt") 359,.str (Str.ofString "gt;") 362,.str (Str.ofString "lt") 365,.str (Str.ofString "lt;") 368,.str (Str.ofString "nbsp") 371,.str (Str.ofString "nbsp;") 374,.str (Str.ofString "not") 377,.str (Str.ofString "not;") 380,.str (Str.ofString "notin;") 383,.str (Str.ofString "notni;") 386,.str (Str.ofString "para") 389,.str (Str.ofString "para;") 392,.str (Str.ofString "parallel;") 395,.str (Str.ofString "quot") 398,.str (Str.ofString "quot;") 401,.str (Str.ofString "sup1") 403,.str (Str.ofString "sup1;") 405,.str (Str.ofString "sup2") 407,.str (Str.ofString "sup2;") 409,.str (Str.ofString "sup;") 411,.str (Str.ofString "times") 413,.str (Str.ofString "times;") 415,.str (Str.ofString "timesb;") 417] 2,#[]⟩),
 (246,⟨.type "tuple",none,.seq #[.int 0 838,.int 43 840] 0,#[]⟩),
 (254,⟨.type "tuple",none,.seq #[.none] 0,#[]⟩),
 (276,⟨.type "tuple",none,.seq #[.none,.bool false] 0,#[]⟩),
 (48,⟨.type "dict",none,.dict #[ke P "Doctype" 532 (.int 0 533),ke P "Characters" 534 (.int 1 535),ke P "SpaceCharacters" 536 (.int 2 537),ke P "StartTag" 538 (.int 3 539),ke P "EndTag" 540 (.int 4 541),ke P "EmptyTag" 542 (.int 5 543),ke P "Comment" 544 (.int 6 545),ke P "ParseError" 546 (.int 7 547)] 8,#[]⟩),
 (43,⟨.type "dict",none,.dict #[ke P "AMP" 299 (.str (Str.ofString "&") 300),ke P "AMP;" 302 (.str (Str.ofString "&") 303),ke P "Eacute" 305 (.str (Str.ofString "É") 306),ke P "Eacute;" 308 (.str (Str.ofString "É") 309),ke P "Mopf;" 311 (.str (Str.ofString "𝕄") 312),ke P "ac;" 314 (.str (Str.ofString "∾") 315),ke P "acE;" 317 (.str (Str.ofString "∾̳") 318),ke P "acute" 320 (.str (Str.ofString "´") 321),ke P "acute;" 323 (.str (Str.ofString "´") 324),ke P "amp" 326 (.str (Str.ofString "&") 327),ke P "amp;" 329 (.str (Str.ofString "&") 330),ke P "ang;" 332 (.str (Str.ofString "∠") 333),ke P "angle;" 335 (.str (Str.ofString "∠") 336),ke P "bne;" 338 (.str (Str.ofString "=⃥") 339),ke P "copy" 341 (.str (Str.ofString "©") 342),ke P "copy;" 344 (.str (Str.ofString "©") 345),ke P "eacute" 347 (.str (Str.ofString "é") 348),ke P "eacute;" 350 (.str (Str.ofString "é") 351),ke P "frac12" 353 (.str (Str.ofString "½") 354),ke P "frac12;" 356 (.str (Str.ofString "½") 357),ke P "gt" 359 (.str (Str.ofString ">") 360),ke P "gt;" 362 (.str (Str.ofString ">") 363),ke P "lt" 365 (.str (Str.ofString "<") 366),ke P "lt;" 368 (.str (Str.ofString "<") 369),ke P "nbsp" 371 (.str (Str.ofString " ") 372),ke P "nbsp;" 374 (.str (Str.ofString " ") 375),ke P "not" 377 (.str (Str.ofString "¬") 378),ke P "not;" 380 (.str (Str.ofString "¬") 381),ke P "notin;" 383 (.str (Str.ofString "∉") 384),ke P "notni;" 386 (.str (Str.ofString "∌") 387),ke P "para" 389 (.str (Str.ofString "¶") 390),ke P "para;" 392 (.str (Str.ofString "¶") 393),ke P "parallel;" 395 (.str (Str.ofString "∥") 396),ke P "quot" 398 (.str (Str.ofString "\"") 399),ke P "quot;" 401 (.str (Str.ofString "\"") 402),ke P "sup1" 403 (.str (Str.ofString "¹") 404),ke P "sup1;" 405 (.str (Str.ofString "¹") 406),ke P "sup2" 407 (.str (Str.ofString "²") 408),ke P "sup2;" 409 (.str (Str.ofString "²") 410),ke P "sup;" 411 (.str (Str.ofString "⊃") 412),ke P "times" 413 (.str (Str.ofString "×") 414),ke P "times;" 415 (.str (Str.ofString "×") 416),ke P "timesb;" 417 (.str (Str.ofString "⊠") 418)] 43,#[]⟩),
 (46,⟨.type "dict",none,.dict #[ki 0 429 (.str (Str.ofString "�") 430),ki 13 432 (.str (Str.ofString "\x0d") 433),ki 128 435 (.str (Str.ofString "€") 436),ki 129 438 (.str (Str.ofString "") 439),ki 130 441 (.str (Str.ofString "‚") 442),ki 131 444 (.str (Str.ofString "ƒ") 445),ki 132 447 (.str (Str.ofString "„") 448),ki 133 450 (.str (Str.ofString "…") 451),ki 134 453 (.str (Str.ofString "†") 454),ki 135 456 (.str (Str.ofString "‡") 457),ki 136 459 (.str (Str.ofString "ˆ") 460),ki 137 462 (.str (Str.ofString "‰") 463),ki 138 465 (.str (Str.ofString "Š") 466),ki 139 468 (.str (Str.ofString "‹") 469),ki 140 471 (.str (Str.ofString "Œ") 472),ki 141 474 (.str (Str.ofString "") 475),ki 142 477 (.str (Str.ofString "Ž") 478),ki 143 480 (.str (Str.ofString "") 481),ki 144 483 (.str (Str.ofString "") 484),ki 145 486 (.str (Str.ofString "‘") 487),ki 146 489 (.str (Str.ofString "’") 490),ki 147 492 (.str (Str.ofString "“") 493),ki 148 495 (.str (Str.ofString "”") 496),ki 149 498 (.str (Str.ofString "•") 499),ki 150 501 (.str (Str.ofString "–") 502),ki 151 504 (.str (Str.ofString "—") 505),ki 152 507 (.str (Str.ofString "˜") 508),ki 153 510 (.str (Str.ofString "™") 511),ki 154 513 (.str (Str.ofString "š") 514),ki 155 516 (.str (Str.ofString "›") 517),ki 156 519 (.str (Str.ofString "œ") 520),ki 157 522 (.str (Str.ofString "") 523),ki 158 525 (.str (Str.ofString "ž") 526),ki 159 528 (.str (Str.ofString "Ÿ") 529)] 34,#[]⟩),
 (235,⟨.type "dict",none,.dict #[ke P "_data" 832 (.ref 43),ke P "_keys" 834 (.ref 243),ke P "_cachestr" 837 (.str (Str.ofString "") 835),ke P "_cachepoints" 842 (.ref 246)] 4,#[]⟩),
 (237,⟨.type "frame",none,.dict #[ke P "self" 829 (.ref 236),ke P "data" 830 (.ref 43)] 2,#[]⟩),
 (236,⟨.ref 230,some 235,.plain,#[]⟩)]
noncomputable def YN (P:Params):Frag:=lA.map MR++UG P
noncomputable def Du:List Nat:=lA.map (·.1)++[3,72,73,165,166,229,230,761,762,1,2,22,27,32,37,49,134,149,171,243,246,254,276,48,43,46,235,237,236]
noncomputable def lB:List Nat:=List.range 900
noncomputable def tK (e:DictEntry):Bool:=match e.key with
 |.str _ _=>true
 |_=>false
noncomputable def Az:V→Value
 |.blt i=>.builtin i
 |.typ n=>.type n
 |_=>.none
noncomputable def Oy (K:Frag):Bool×List (Option Value):=match K.lookup builtinsNs with
 |some ⟨_,_,.dict en _,_⟩=>(en.toList.all tK,mQ.blts.map λx=>lU (st x.1) en.toList)
 |_=>(false,[])
noncomputable def Zg:List Value→Option Str
 |_::.str n _::_=>some n
 |_=>none
noncomputable def rH (K:Frag)(c:Nat):Option Str:=match K.lookup c with
 |some ⟨_,_,.fields vs,_⟩=>Zg vs.toList
 |_=>none
noncomputable def YO (K:Frag):List (Option Str):=lA.map λx=>rH K (x.1-1)
noncomputable abbrev Zh:=Frag×List (Option Str)×(Bool×List (Option Value))×(Bool×Bool)
noncomputable def yU (K K2:Frag)(t n:Nat):Zh:=(K,YO K2,Oy K2,(Nat.ble 1 t,(K2.all λx=> !iQ x.1 x.2)&&Nat.ble n 900))
noncomputable def rI (w:World):Zh:=(YN w.params,lA.map λx=>some (qE x.2.1 iO.main.body).2,(true,mQ.blts.map λx=>some (Az x.2)),(true,true))
end
section
noncomputable def iC:List Str:=[Str.ofString "_wall",Str.ofString "EOF",Str.ofString "spaceCharacters",Str.ofString "asciiLetters",Str.ofString "digits",Str.ofString "hexDigits",Str.ofString "asciiLower",Str.ofString "entities",Str.ofString "replacementCharacters",Str.ofString "tokenTypes",Str.ofString "tagTokenTypes",Str.ofString "Text",Str.ofString "_is_invalid",Str.ofString "HTMLUnicodeInputStream",Str.ofString "bisect_left",Str.ofString "Trie",Str.ofString "entitiesTrie",Str.ofString "HTMLTokenizer",Str.ofString "_law_UNITS",Str.ofString "_law_HEADS",Str.ofString "_law_TAILS",Str.ofString "_law_STOPS",Str.ofString "_law_CLOSE",Str.ofString "_law_TENS",Str.ofString "_law_SIXTEENS",Str.ofString "_law_unit",Str.ofString "_law_longest",Str.ofString "_law_among",Str.ofString "_law_sixteen",Str.ofString "_law_bare",Str.ofString "_law_written"]
noncomputable def MS:Program:=view iO [36]
theorem UH (w:World):(Dr iO (w.withFollow "special-get-raises" false) 20000).map (λT=>(yT MS iC (importedModules iO.main.body) (λ_=>true) true T.abs,yU (tJ Du T) (tJ lB T) T.toks T.n))=some (openGood MS iC,rI (w.withFollow "special-get-raises" false)):=by kernel_rfl
theorem UI (w:World):(Dr iO (w.withFollow "special-get-raises" true) 20000).map (λT=>(yT MS iC (importedModules iO.main.body) (λ_=>true) true T.abs,yU (tJ Du T) (tJ lB T) T.toks T.n))=some (openGood MS iC,rI (w.withFollow "special-get-raises" true)):=by kernel_rfl
theorem Oz:LeftO iO MS iC (λ_=>true) (λs=>yU (k9 Du s) (k9 lB s) s.toks s.heap.objs.size) rI 20000:=JJ λw b=>match b with
 |false=>UH w
 |true=>UI w
end
section
noncomputable abbrev XE:OpenLaw:=PySem.Challenge.rw_te0044_02
noncomputable abbrev pp:Program:=(Fast.tw2368527892694137696 PySem.Challenge.rw_te0044_02).prog
theorem wd0:Fast.tw11788848310118352699 pp.main=true:=by kernel_rfl
theorem wd2:Fast.tw12862048085361865435 (Fast.tw9807087744658564304 pp.main.body) pp.main.body=true:=by kernel_rfl
theorem wd3:Fast.tw8377067652309620493 pp=true:=by kernel_rfl
theorem wd4:(R.allR (Fast.tw18344453789297297638 pp) λn=> !Fast.tw3471404346716756564 Fast.tw14412699480532031325 n)=true:=by kernel_rfl
theorem YP:R.filterR (Fast.tw13343964577679436407 pp pp.main.body) [{cps:={toList:=[118,97,114,115]}},{cps:={toList:=[100,105,114]}},{cps:={toList:=[108,111,99,97,108,115]}}]=[]:=by kernel_rfl
theorem wd6:(Fast.tw17119622794617984870 pp pp.main.body λx n=>Fast.tw17868728402115742887 n)=true:=by kernel_rfl
noncomputable abbrev YQ (b:List Str):Look:={strict:= !R.allR (Fast.tw5923862056798008813 pp.main.body) (Fast.tw3471404346716756564 Fast.tw17691160309236699985),foot:=none,bare:=b}
theorem wd5:Fast.tw8326940854005059898 (YQ []) pp.main.body=true:=by kernel_rfl
theorem YR:Fast.tw8326940854005059898 (YQ (R.filterR (Fast.tw13343964577679436407 pp pp.main.body) [{cps:={toList:=[118,97,114,115]}},{cps:={toList:=[100,105,114]}},{cps:={toList:=[108,111,99,97,108,115]}}])) pp.main.body=true:=(congrArg (λb=>Fast.tw8326940854005059898 (YQ b) pp.main.body) YP).trans wd5
theorem wd7:Fast.tw12908688711261696721 pp=true:=by
 delta Fast.tw12908688711261696721
 exact look_both (look_both (look_both (look_both (look_both wd0 (by rw[wd2];exact Bool.or_true _)) wd3) wd4) YR) wd6
theorem YS:Fast.tw2436336058641802641 (Fast.tw2368527892694137696 PySem.Challenge.rw_te0044_02)=true:=by
 delta Fast.tw2436336058641802641
 repeat' with_reducible refine look_both ?_ ?_
 ·exact wd7
 all_goals kernel_rfl
theorem YT:Fast.tw17960256430627541270 (Fast.tw2368527892694137696 PySem.Challenge.rw_te0044_02)=true:=by
 delta Fast.tw17960256430627541270
 repeat' with_reducible refine look_both ?_ ?_
 ·exact YS
 all_goals as_aux_lemma=>kernel_rfl
theorem PA:PySem.Challenge.rw_te0044_02.wellSaid=true:=by
 have e: @OpenLaw.wellSaid=PySem.W.Fast.tw9446332074065402090:=PySem.W.Fast.te9446332074065402090
 rw[e]
 delta PySem.W.Fast.tw9446332074065402090
 repeat' with_reducible refine look_both ?_ ?_
 ·exact YT
 all_goals as_aux_lemma=>kernel_rfl
end
section
open PySem.Builtin.Str PySem.StrLaws
noncomputable def gV (p:Int×Int)(s:List Nat):Int×Int:=s.foldl (λp c=>if c=10 then(p.1+1,0)else(p.1,p.2+1)) p
theorem iD (p:Int×Int)(a b:List Nat):gV p (a++b)=gV (gV p a) b:=by unfold gV;rw[List.foldl_append]
theorem Dv (p:Int×Int)(a:List Nat)(c:Nat):gV p (a++[c])=if c=10 then((gV p a).1+1,0)else((gV p a).1,(gV p a).2+1):=by rw[iD];rfl
noncomputable def nl (s:List Nat)(i:Nat):Bool:=s[i]? ==some 10
theorem Dw (s:List Nat)(i:Nat):subAt (st s) (st [10]) i=nl s i:=by
 rw[subAt_eq,cI,cI]
 unfold nl
 have h:(st [10]).length=1:=rfl
 rw[h]
 cases e:s[i]? with
 |none=>rw[List.drop_of_length_le (List.getElem?_eq_none_iff.mp e)];rfl
 |some c=>
  obtain⟨hl,e⟩:=List.getElem?_eq_some_iff.mp e
  rw[List.drop_eq_getElem_cons hl,e,List.take_succ_cons,List.take_zero,Bool.eq_iff_iff]
  simp
theorem v7 (s:List Nat){off:Nat}(ho:off≤s.length):∀ (n k:Nat) (x:Array Nat×Nat),x.2≤k→x.1.size≤k→k+n≤off+1→
  (forIn (List.range' k n) x (occBody (st s) (st [10]) off (s.length+1))).run.1.size=x.1.size+((List.range' k n).filter λi=>decide (i<off)&&nl s i).length
 |0,k,x,_,_,_=>by simp
 |n+1,k,x,h1,h2,h3=>by
  rw[List.range'_succ,List.forIn_cons,List.filter_cons]
  unfold occBody
  rw[Dw]
  have h:(st [10]).length=1:=rfl
  rw[h]
  by_cases c:k<off∧nl s k=true
  ·rw[if_pos ⟨⟨⟨by lia,h1⟩,by lia⟩,c.2⟩,if_pos (by simp[c.1,c.2])]
   have:=v7 s ho n (k+1) (x.1.push k,k+1) (A7 _) (by simp;lia) (by lia)
   show(forIn (List.range' (k+1) n) (x.1.push k,k+1) (occBody (st s) (st [10]) off (s.length+1))).run.1.size=_
   rw[this]
   simp
   lia
  ·rw[if_neg (λh=>c ⟨by lia,h.2⟩),if_neg (by simp only[Bool.and_eq_true,decide_eq_true_eq];exact c)]
   exact v7 s ho n (k+1) x (by lia) (by lia) (by lia)
theorem rJ (s:List Nat)(off:Nat):∀ (n k:Nat) (x:Option Nat),(forIn (List.range' k n) x (lastBody (st s) (st [10]) off)).run=(((List.range' k n).filter λi=>decide (i<off)&&nl s i).getLast?.or x)
 |0,k,x=>by simp
 |n+1,k,x=>by
  rw[List.range'_succ,List.forIn_cons,List.filter_cons]
  unfold lastBody
  rw[Dw]
  have h:(st [10]).length=1:=rfl
  rw[h]
  by_cases c:k<off∧nl s k=true
  ·rw[if_pos ⟨by lia,c.2⟩,if_pos (by simp[c.1,c.2])]
   show(forIn (List.range' (k+1) n) (some k) (lastBody (st s) (st [10]) off)).run=_
   rw[rJ s off n (k+1),List.getLast?_cons]
   cases(List.filter (λi=>decide (i<off)&&nl s i) (List.range' (k+1) n)).getLast? <;>rfl
  ·rw[if_neg (λh=>c ⟨by lia,h.2⟩),if_neg (by simp only[Bool.and_eq_true,decide_eq_true_eq];exact c)]
   exact rJ s off n (k+1) x
noncomputable def uW (s:List Nat)(off:Nat):List Nat:=(List.range off).filter (nl s)
theorem Dx (s:List Nat)(off:Nat):(List.range' 0 (off+1)).filter (λi=>decide (i<off)&&nl s i)=uW s off:=by
 rw[← List.range_eq_range',List.range_succ,List.filter_append]
 unfold uW
 have h:List.filter (λi=>decide (i<off)&&nl s i) [off]=[]:=by simp
 rw[h,B1]
 exact List.filter_congr λi hi=>by simp[List.mem_range.mp hi]
theorem rK (s:List Nat){k:Nat}(h:k≤s.length):fromIndex (st s).length (k:Int)=k:=by
 unfold fromIndex
 rw[dZ]
 split <;>lia
theorem JK {s:List Nat}{off:Nat}(ho:off≤s.length):Cc s [10] 0 (off:Int)=(uW s off).length:=by
 unfold Cc
 have z:=rK s (k:=0) (Nat.zero_le _)
 have z:fromIndex (st s).length 0=0:=z
 rw[z,rK s ho,occ_eq,Array.length_toList,dZ,Nat.min_eq_left ho]
 have:=v7 s ho (off+1) 0 (#[],0) (A7 _) (A7 _) (by lia)
 show(((forIn (List.range' 0 (off+1)) (#[],0) (occBody (st s) (st [10]) off (s.length+1))).run.1.size:Nat):Int)=_
 rw[this,Dx]
 try simp
theorem JL {s:List Nat}{off:Nat}(ho:off≤s.length):pB s [10] 0 (off:Int)=match(uW s off).getLast? with|some k=>(k:Int)|none=> -1:=by
 unfold pB
 have z:=rK s (k:=0) (Nat.zero_le _)
 have z:fromIndex (st s).length 0=0:=z
 rw[z,rK s ho,last_eq,dZ,Nat.min_eq_left ho]
 have e:(forIn (List.range' 0 (off+1-0)) none (lastBody (st s) (st [10]) off)).run=(uW s off).getLast?:=by
  rw[Nat.sub_zero,rJ,Dx];try simp
 rw[e]
 try (cases(uW s off).getLast? <;>rfl)
theorem Dy (s:List Nat)(off:Nat):uW s (off+1)=uW s off++if nl s off then [off]else []:=by
 unfold uW
 rw[List.range_succ,List.filter_append,List.filter_cons]
 split <;>rfl
theorem yV (p:Int×Int)(s:List Nat):∀ off,off≤s.length→gV p (s.take off)=(p.1+(uW s off).length,match(uW s off).getLast? with|some k=>(off:Int) - ((k:Int)+1)|none=>p.2+off)
 |0,_=>by simp[gV,uW]
 |off+1,h=>by
  have hl:off<s.length:=h
  have e:s.take (off+1)=s.take off++[s[off]]:=by rw[List.take_add_one,List.getElem?_eq_getElem hl];rfl
  rw[e,Dv,yV p s off (by lia),Dy]
  have hn:nl s off=(s[off]==10):=by unfold nl;rw[List.getElem?_eq_getElem hl];rfl
  rw[hn]
  by_cases c:s[off]=10
  ·rw[if_pos c,if_pos (by simp[c])]
   rw[List.getLast?_concat,A2]
   simp only[B3,List.length_nil]
   refine Prod.ext ?_ ?_
   ·show p.1+((uW s off).length:Int)+1=p.1+(((uW s off).length+(0+1):Nat):Int)
    lia
   ·show(0:Int)=((off+1:Nat):Int) - ((off:Int)+1)
    lia
  ·rw[if_neg c,if_neg (by simp[c]),B1]
   refine Prod.ext rfl ?_
   cases(uW s off).getLast? with
   |none=>
    show p.2+(off:Int)+1=p.2+((off+1:Nat):Int)
    lia
   |some k=>
    show(off:Int) - ((k:Int)+1)+1=((off+1:Nat):Int) - ((k:Int)+1)
    lia
theorem JM {s:List Nat}{off:Nat}(ho:off≤s.length)(p:Int×Int):gV p (s.take off)=(p.1+Cc s [10] 0 off,if pB s [10] 0 off= -1 then p.2+off else(off:Int) - (pB s [10] 0 off+1)):=by
 rw[yV p s off ho,JK ho,JL ho]
 cases(uW s off).getLast? with
 |none=>simp
 |some k=>
  have:¬ (k:Int)= -1:=by lia
  dsimp only
  rw[if_neg this]
end
section
noncomputable def dQ:Nm:=[116,101,120,116]
noncomputable def b5:Nm:=[112,108,97,99,101]
noncomputable def eU:Nm:=[105,110,118,97,108,105,100,45,99,111,100,101,112,111,105,110,116]
noncomputable def dT:Nm:=aAl
noncomputable def nY:Nm:=[110,101,119,76,105,110,101,115]
noncomputable def j2:Nm:=[100,97,116,97,83,116,114,101,97,109]
noncomputable def yW:Nm:=[99,104,117,110,107]
noncomputable def l3:Nm:=[99,104,117,110,107,83,105,122,101]
noncomputable def iX:Nm:=[99,104,117,110,107,79,102,102,115,101,116]
noncomputable def tL:Nm:=[101,114,114,111,114,115]
noncomputable def hS:Nm:=aAw
noncomputable def iY:Nm:=[112,114,101,118,78,117,109,67,111,108,115]
noncomputable def eJ:Nm:=aAn
noncomputable def d8:Nm:=aAy
noncomputable def lC:Nm:=[100,97,116,97]
noncomputable def PB:Nm:=[99]
structure Stm where
 text:List Nat
 place:Nat
 chunk:List Nat
 off:Nat
 buf:Option Nat
 ln:Int
 cl:Int
 er:Nat
noncomputable def UJ:Option Nat→D
 |none=>.non
 |some c=>.str [c]
noncomputable def XL (text:List Nat)(p:Int):List O:=[.ins 73 1,.ns [(dQ,.dat (.str text)),(b5,.dat (.int p))]]
noncomputable def Bd (n:Nat):List D:=List.replicate n (.str eU)
noncomputable def strE (r:Stm)(a b e:Nat):O:=.ns [(dT,.mth 148 a),(nY,.dat (.lst [.int 0])),(j2,.ref b),(yW,.dat (.str r.chunk)),(l3,.dat (.int r.chunk.length)),(iX,.dat (.int r.off)),
  (tL,.ref e),(hS,.dat (.int r.ln)),(iY,.dat (.int r.cl)),(eJ,.dat (UJ r.buf))]
noncomputable def SL (r:Stm):List O:=[.ins 166 1,strE r 0 2 4,.ins 73 3,.ns [(dQ,.dat (.str r.text)),(b5,.dat (.int r.place))],.dls (Bd r.er)]
theorem UK {a b:Bool}(h:a=true)(k:b=true):nM a b=true:=(congrArg (λx=>nM x b) h).trans k
theorem UM {t b:Bool}(h:b=t):AU t b=true:=(m7 t b).symm.trans (h▸beq_self_eq_true b)
theorem Dz {b:Bool}(h:b=false):(!b)=true:=h▸rfl
noncomputable def cg:List (Bool×Bool)→Bool
 | []=>true
 |p::r=>nM (AU p.1 p.2) (cg r)
theorem aG:cg []=true:=rfl
theorem aB {t b:Bool}{r:List (Bool×Bool)}(h:b=t)(k:cg r=true):cg ((t,b)::r)=true:=UK (UM h) k
theorem li {n:Nat}(h:n≤20000):Nat.ble n lim=true:=A4 (A5 h (by decide))
noncomputable def lE (c:Nat):Bool:=Nat.beq c 1||Nat.beq c 64976
noncomputable def JN (c:Nat):Bool:=Nat.ble 160 c&&(Nat.ble c 1114111&&((Nat.blt c 55296||(Nat.ble 57344 c&&(Nat.blt c 64976||Nat.ble 65008 c)))&&Nat.blt (c%65536) 65534))
noncomputable def HJ (c:Nat):Bool:=Nat.beq c 10||(Nat.beq c 13||((Nat.ble 32 c&&Nat.ble c 126)||JN c))
noncomputable def mR (c:Nat):Prop:=HJ c=true
noncomputable def cY (d:Nm):Nat:=(d.filter lE).length
theorem hU (a b:Nm):cY (a++b)=cY a+cY b:=by unfold cY;rw[List.filter_append,A2]
noncomputable def okC (c:Int):List (Bool×Bool):=[(false,!aX c 55296),(false,bU (.int (Int.fmod c 65536)) [.int 65534,.int 65535]),(false,!aX c 64976),(false,!aX c 127),(false,!aX 31 c),(true,!aX c 14),(false,gU c 11),(false,!aX 8 c),(true,!aX c 1)]
theorem PC:∀ c<127,32≤c→cg (okC (Int.ofNat c))=true:=by decide+kernel
structure Big (c:Nat):Prop where
 lo:160≤c
 hi:c≤1114111
 gap:c<55296∨(57344≤c∧c<64976)∨65008≤c
 md:c%65536<65534
theorem PD {c:Nat}(h:JN c=true):Big c:=
 have h:=A0 h
 have q:=A0 h.2
 have w:=A0 q.2
 ⟨A3 h.1,A3 q.1,(A1 w.1).imp A3 λx=>have x:=A0 x;(A1 x.2).imp (λy=>⟨A3 x.1,A3 y⟩) A3,A3 w.2⟩
theorem gA {c:Nat}(h:mR c):c=10∨c=13∨(32≤c∧c≤126)∨Big c:=
 (A1 h).imp B0 λh=>(A1 h).imp B0 λh=>(A1 h).imp (λh=>(A0 h).imp A3 A3) PD
theorem mH {a b:Nat}(h:b≤a):aX a b=false:=(cN a b).symm.trans (decide_eq_false (by lia))
theorem gB {a b:Nat}(h:a<b):aX a b=true:=(cN a b).symm.trans (decide_eq_true (by lia))
theorem e9 {a b:Nat}(h:b≤a):(!aX a b)=true:=congrArg (!·) (mH h)
theorem dN {a b:Nat}(h:a<b):(!aX a b)=false:=congrArg (!·) (gB h)
theorem yX {a b:Nat}(h:a≠b):gU a b=false:=(bL a b).symm.trans (beq_eq_false_iff_ne.mpr (by lia))
theorem UN {a b:Nat}(h:a=b):gU a b=true:=(bL a b).symm.trans (h▸beq_self_eq_true _)
theorem PE {c:Nat}(h:c%65536<65534):bU (.int (Int.fmod c 65536)) [.int 65534,.int 65535]=false:=by
 rw[show Int.fmod (c:Int) 65536=((c%65536:Nat):Int)from Int.fmod_eq_emod_of_nonneg _ (by decide)]
 exact Bool.or_eq_false_iff.mpr ⟨yX (a:=65534) (b:=c%65536) (by lia),Bool.or_eq_false_iff.mpr ⟨yX (a:=65535) (b:=c%65536) (by lia),rfl⟩⟩
section
variable (z:bS)
noncomputable abbrev JO (z:bS)(r:Stm)(off:Nat):Prop:=CallOk z.c 1 119 [.ref 0,.dat (.int off)] (SL r) (.dat (.tup [.int (gV (r.ln,r.cl) (r.chunk.take off)).1,.int (gV (r.ln,r.cl) (r.chunk.take off)).2])) (SL r)
theorem MT {r:Stm}{off:Nat}(ho:off≤r.chunk.length):JO z r off:=by
 unfold JO
 rw[JM ho]
 cases h:uU (D.int (pB r.chunk [10] 0 off)) (D.int (-1))with
 |true=>
  rw[if_pos (by have:=(bL (pB r.chunk [10] 0 off) (-1)).trans h;exact eq_of_beq this)]
  exact z.use (hs:=[.tst 56011028 true]) (o:=.fz [] []) (aB h aG) trivial (by kernel_rfl)
 |false=>
  rw[if_neg (by have:=(bL (pB r.chunk [10] 0 off) (-1)).trans h;exact ne_of_beq_false this)]
  exact z.use (hs:=[.tst 56011028 false]) (o:=.fz [] []) (aB h aG) trivial (by kernel_rfl)
noncomputable def Stm.pos (r:Stm):Int×Int:=gV (r.ln,r.cl) (r.chunk.take r.off)
theorem v8 {r:Stm}(ho:r.off≤r.chunk.length):CallOk z.c 2 126 [.ref 0] (SL r) (.dat (.tup [.int (r.pos.1+1),.int r.pos.2])) (SL r):=
 z.use (hs:=[.cal 119 1 [0,1,2,3,4] (.dat (.tup [.int r.pos.1,.int r.pos.2])) (SL r)]) (o:=.fz [] []) (g:=true) (ob:=JO z r r.off∧True) rfl ⟨MT z ho,trivial⟩ (by kernel_rfl)
theorem BA {c:Nat}(hc:mR c):CallOk z.c 1 84 [.dat (.int c)] [] (.dat (.boo (lE c))) []:=by
 rcases gA hc with rfl|rfl|h|h
 ·exact z.use (hs:=[]) (o:=.fz [] []) rfl trivial (by kernel_rfl)
 ·exact z.use (hs:=[]) (o:=.fz [] []) rfl trivial (by kernel_rfl)
 ·rw[show lE c=false from Bool.or_eq_false_iff.mpr ⟨(q0 _ _).trans (decide_eq_false (by lia)),(q0 _ _).trans (decide_eq_false (by lia))⟩]
  exact z.use (hs:=[.tst 28011012 true,.tst 28011030 false,.tst 28034049 false,.tst 28053055 true,.tst 28053074 false,.tst 28079082 false,.tst 28108113 false,.tst 28141176 false,.tst 28182187 false]) (o:=.fz [] []) (PC c (Nat.lt_succ_of_le h.2) h.1) trivial (by kernel_rfl)
 ·have l:=h.lo
  have gp:=h.gap
  rw[show lE c=false from Bool.or_eq_false_iff.mpr ⟨(q0 _ _).trans (decide_eq_false (by lia)),(q0 _ _).trans (decide_eq_false (by lia))⟩]
  have g0:cg [(false,!aX 159 c),(true,!aX c 127),(false,!aX 31 c),(true,!aX c 14),(false,gU c 11),(false,!aX 8 c),(true,!aX c 1)]=true:=
   aB (dN (a:=159) (by lia)) (aB (e9 (b:=127) (by lia)) (aB (dN (a:=31) (by lia)) (aB (e9 (b:=14) (by lia)) (aB (yX (b:=11) (by lia)) (aB (dN (a:=8) (by lia)) (aB (e9 (b:=1) (by lia)) aG))))))
  rcases gp with q|q|q
  ·exact z.use (hs:=[.tst 28011012 true,.tst 28011030 false,.tst 28034049 false,.tst 28053055 true,.tst 28053074 false,.tst 28079082 true,.tst 28079102 false,.tst 28108113 false,.tst 28141176 false,.tst 28182187 false]) (o:=.fz [] []) (aB (dN (a:=c) (b:=55296) q) (aB (PE h.md) (aB (dN (a:=c) (b:=64976) (by lia)) g0))) trivial (by kernel_rfl)
  ·exact z.use (hs:=[.tst 28011012 true,.tst 28011030 false,.tst 28034049 false,.tst 28053055 true,.tst 28053074 false,.tst 28079082 true,.tst 28079102 false,.tst 28108113 false,.tst 28141176 false,.tst 28182187 true,.val 28182209 (.dat (.boo false))]) (o:=.fz [] []) (ob:=V.dat (.boo (!aX 57343 c))=V.dat (.boo false)∧True) (aB (e9 (a:=c) (b:=55296) (by lia)) (aB (PE h.md) (aB (dN (a:=c) (b:=64976) (by lia)) g0))) ⟨congrArg (λb=>V.dat (.boo b)) (dN (a:=57343) (by lia)),trivial⟩ (by kernel_rfl)
  ·exact z.use (hs:=[.tst 28011012 true,.tst 28011030 false,.tst 28034049 false,.tst 28053055 true,.tst 28053074 false,.tst 28079082 true,.tst 28079102 false,.tst 28108113 true,.tst 28108135 false,.tst 28141176 false,.tst 28182187 true,.val 28182209 (.dat (.boo false))]) (o:=.fz [] []) (ob:=V.dat (.boo (!aX 57343 c))=V.dat (.boo false)∧True) (aB (e9 (a:=c) (b:=55296) (by lia)) (aB (PE h.md) (aB (dN (a:=65007) (b:=c) (by lia)) (aB (e9 (a:=c) (b:=64976) (by lia)) g0)))) ⟨congrArg (λb=>V.dat (.boo b)) (dN (a:=57343) (by lia)),trivial⟩ (by kernel_rfl)
noncomputable def EA:Fn:=iM iO [15,8] []
noncomputable def qF:ForI:=Di (bV EA.body 0)
noncomputable def Stm.more (r:Stm)(k:Nat):Stm:=⟨r.text,r.place,r.chunk,r.off,r.buf,r.ln,r.cl,r.er+k⟩
noncomputable def EL (r:Stm)(d:Nm)(eo:List (Nm×V)):List O:=SL r++[.fr ([(d8,.ref 0),(lC,.dat (.str d))]++eo)]
noncomputable abbrev EF:Fx:=⟨5,[],true⟩
theorem EB (n:Nat):Bd n++[.str eU]=Bd (n+1):=List.replicate_succ'.symm
theorem JP (n:Nat):(Bd n).length=n:=List.length_replicate
theorem PF {r:Stm}{d:Nm}{c:Nat}(hc:mR c)(hl:r.er≤20000):RX z.c EA.names 1 EF (EL r d [(PB,.dat (.str [c]))]) qF.b .next (EL (r.more (bif lE c then 1 else 0)) d [(PB,.dat (.str [c]))]):=by
 have h:=BA z hc
 generalize lE c=b at *
 cases b with
 |true=>
  unfold Stm.more EL SL
  rw[show(bif true then 1 else 0:Nat)=1 from rfl,← EB]
  exact z.useX (hs:=[.cal 84 1 [] (.dat (.boo true)) []]) (g:=cg [(true,Nat.ble (Bd r.er).length lim)]) (aB (li (by rw[JP];exact hl)) aG) (an h trivial) (by kernel_rfl)
 |false=>exact z.useX (hs:=[.cal 84 1 [] (.dat (.boo false)) []]) (g:=true) rfl (an h trivial) (by kernel_rfl)
theorem EC {d:Nm}:∀ (t:Nm) (k:Nat) (r:Stm) (eo:List (Nm×V)),d.drop k=t→(∀ c∈t,mR c)→r.er+cY t≤20000→(eo=[]∨∃ v,eo=[(PB,v)])→∃ eo',s9 z.c EA.names 1 EF qF.g qF.b 6 (.dat (.str d)) (t.length+1) k (EL r d eo) .next (EL (r.more (cY t)) d eo')
 | [],k,r,eo,h,_,_,_=>⟨eo,.stop rfl (by rw[yG,List.getElem?_map,List.getElem?_eq_none (List.drop_eq_nil_iff.mp h)];rfl)⟩
 |c::t,k,r,eo,h,hd,hl,ho=>by
  have hk:d[k]? =some c:=by have:=congrArg (·[0]?) h;simpa using this
  have ht:d.drop (k+1)=t:=by rw[← List.drop_drop,h];rfl
  have e1:cY (c::t)=(bif lE c then 1 else 0)+cY t:=by
   unfold cY
   rw[List.filter_cons]
   cases lE c with
   |true=>rw[if_pos rfl,B3];exact Nat.add_comm ..
   |false=>rw[if_neg A8];exact(Nat.zero_add _).symm
  rw[e1]at hl
  obtain⟨eo',q⟩:=EC t (k+1) (r.more (bif lE c then 1 else 0)) [(PB,.dat (.str [c]))] ht (λx m=>hd x (.tail _ m)) (by show r.er+_+_≤_;lia) (.inr ⟨_,rfl⟩)
  have q':(r.more (bif lE c then 1 else 0)).more (cY t)=r.more (cY (c::t)):=by rw[e1];unfold Stm.more;rw[Nat.add_assoc]
  rw[q']at q
  have g:(yG d)[k]? =some (.dat (.str [c])):=by rw[yG,List.getElem?_map,hk];rfl
  have e:e7 EF qF.y.cps.toList (.dat (.str [c])) (EL r d eo)=some (EL r d [(PB,.dat (.str [c]))]):=by
   rcases ho with rfl|⟨v,rfl⟩<;>kernel_rfl
  exact⟨eo',.turn rfl g (dL (by kernel_rfl) e) (PF z (hd c (.head _)) (by lia)) rfl .id q⟩
theorem PG {r:Stm}{d:Nm}(hd:∀ c∈d,mR c)(hl:r.er+cY d≤20000):CallOk z.c 2 148 [.ref 0,.dat (.str d)] (SL r) (.dat .non) (SL (r.more (cY d))):=by
 obtain⟨eo',q⟩:=EC z (d:=d) d 0 r [] rfl hd hl (.inl rfl)
 have h1:RE z.c EA.names 1 EF (EL r d []) qF.i (.dat (.str d)) (EL r d []):=z.useE (hs:=[]) rfl trivial (by kernel_rfl)
 exact z.use (hs:=[.stm 102 .next (EL (r.more (cY d)) d eo')]) (o:=.fz [] []) (g:=true) (ob:=RS z.c EA.names 1 EF (EL r d []) qF.s .next (EL (r.more (cY d)) d eo')∧True) rfl ⟨kZ (λ_ _=>rfl) h1 rfl rfl q,trivial⟩ (by kernel_rfl)
theorem ED {α:Type}(xs:List α)(p k:Nat)(h1:p≤xs.length):dX xs (some (p:Int)) (some ((p:Int)+(k:Int)))=(xs.drop p).take k:=by
 show(xs.drop (mn p xs.length)).take (mn (p+k) xs.length-mn p xs.length)=_
 rw[iU,iU,Nat.min_eq_left h1]
 rcases Nat.le_total (p+k) xs.length with h|h
 ·rw[Nat.min_eq_left h,Nat.add_sub_cancel_left]
 ·rw[Nat.min_eq_right h,List.take_of_length_le (Nat.le_of_eq List.length_drop),List.take_of_length_le (by rw[List.length_drop];lia)]
noncomputable abbrev nZ (z:bS)(t:Nm)(p k:Nat)(d:Nm):Prop:=CallOk z.c 1 70 [.ref 0,.dat (.int k)] (XL t p) (.dat (.str d)) (XL t (p+d.length))
theorem rL {text:Nm}{p k:Nat}(h1:p≤text.length)(h2:text.length≤10240):nZ z text p k ((text.drop p).take k):=by
 have e:=ED text p k h1
 have hl:((text.drop p).take k).length≤20000:=by rw[List.length_take,List.length_drop];lia
 unfold nZ
 generalize (text.drop p).take k=d at *
 exact z.use (hs:=[.val 24015054 (.dat (.str d))]) (o:=.fz [] [])
  (g:=cg [(true,Nat.ble d.length lim),(true,Nat.ble text.length lim)])
  (ob:=V.dat (.str (dX text (some (p:Int)) (some ((p:Int)+k))))=V.dat (.str d)∧True)
  (aB (li hl) (aB (li (A5 h2 (by decide))) aG)) ⟨congrArg (λx=>V.dat (.str x)) e,trivial⟩ (by kernel_rfl)
end
end
section
noncomputable def bG (d:Nm):Nm:=gR [13] [10] 0 (gR [13,10] [10] 0 d)
theorem EG {d:Nm}(h:d.length≤20000):(gR [13,10] [10] 0 d).length≤20000:=A5 (mM (by simp) (by simp) _ _ (A7 _)) h
theorem yY {d:Nm}(h:d.length≤20000):(bG d).length≤20000:=A5 (mM (by simp) (by simp) _ _ (A7 _)) (EG h)
noncomputable def Stm.rest (r:Stm):Nm:=r.buf.toList++r.text.drop r.place
structure Stm.Ok (r:Stm):Prop where
 pl:r.place≤r.text.length
 len:r.text.length≤10240
 sg:∀ c∈r.text,mR c
 buf:r.buf=none∨r.buf=some 13
 off:r.off≤r.chunk.length
 chk:r.chunk.length≤20000
 er:r.er+cY r.rest≤10240
noncomputable abbrev Stm.mt (r:Stm)(k:Nat)(b:Option Nat):Stm:=⟨r.text,r.place+k,[],0,b,(gV (r.ln,r.cl) r.chunk).1,(gV (r.ln,r.cl) r.chunk).2,r.er⟩
noncomputable abbrev Stm.rd (r:Stm)(k:Nat)(b:Option Nat)(d:Nm):Stm:=⟨r.text,r.place+k,bG d,0,b,(gV (r.ln,r.cl) r.chunk).1,(gV (r.ln,r.cl) r.chunk).2,r.er+cY d⟩
noncomputable def Sz (as:List V)(k:Nat):Prop:=(as=[]∧k=10240)∨as=[.dat (.int k)]
section
variable {z:bS}{t:Nm}{p o e:Nat}{ck:Nm}{i j:Int}{b:Option Nat}{d:Nm}{as:List V}{k:Nat}
noncomputable abbrev r0 (t:Nm)(p:Nat)(ck:Nm)(o:Nat)(b:Option Nat)(i j:Int)(e:Nat):Stm:=⟨t,p,ck,o,b,i,j,e⟩
noncomputable abbrev CP (z:bS)(r:Stm):Prop:=CallOk z.c 1 119 [.ref 0,.dat (.int r.chunk.length)] (SL r) (.dat (.tup [.int (gV (r.ln,r.cl) r.chunk).1,.int (gV (r.ln,r.cl) r.chunk).2])) (SL r)
noncomputable abbrev CE (z:bS)(r:Stm)(d:Nm):Prop:=CallOk z.c 2 148 [.ref 0,.dat (.str d)] (SL r) (.dat .non) (SL (r.more (cY d)))
noncomputable abbrev CH (z:bS)(r:Stm)(as:List V)(k:Bool)(r':Stm):Prop:=CallOk z.c 3 141 (.ref 0::as) (SL r) (.dat (.boo k)) (SL r')
noncomputable abbrev j3 (r:Stm):Hi:=.cal 119 1 [0,1,2,3,4] (.dat (.tup [.int (gV (r.ln,r.cl) r.chunk).1,.int (gV (r.ln,r.cl) r.chunk).2])) (SL r)
noncomputable abbrev yZ (t:Nm)(p:Nat)(d:Nm):Hi:=.cal 70 1 [2,3] (.dat (.str d)) (XL t (p+d.length))
noncomputable abbrev mI (r:Stm)(d:Nm):Hi:=.cal 148 2 [0,1,2,3,4] (.dat .non) (SL (r.more (cY d)))
noncomputable abbrev gM (d:Nm):List (Bool×Bool):=[(true,Nat.ble (bG d).length lim),(true,Nat.ble (gR [13,10] [10] 0 d).length lim),(true,Nat.ble d.length lim)]
theorem l4 {d:Nm}{r:List (Bool×Bool)}(h:d.length≤20000)(k:cg r=true):cg (gM d++r)=true:=aB (li (yY h)) (aB (li (EG h)) (aB (li h) k))
theorem PH (h1:CP z (r0 t p ck o none i j e))(h2:nZ z t p 10240 []):CH z (r0 t p ck o none i j e) [] false ((r0 t p ck o none i j e).mt 0 none):=
 z.use (hs:=[j3 (r0 t p ck o none i j e),yZ t p []]) (o:=.fz [] []) (g:=true) rfl (an h2 (an h1 trivial)) (by kernel_rfl)
theorem PI {c:Nat}(h1:CP z (r0 t p ck o none i j e))(h2:nZ z t p 10240 [c])(h3:CE z ((r0 t p ck o none i j e).mt 1 none) [c]):CH z (r0 t p ck o none i j e) [] true ((r0 t p ck o none i j e).rd 1 none [c]):=
 z.use (hs:=[j3 (r0 t p ck o none i j e),yZ t p [c],mI ((r0 t p ck o none i j e).mt 1 none) [c]]) (o:=.fz [] []) (g:=cg (gM [c])) (l4 (by simp) aG) (an h3 (an h2 (an h1 trivial))) (by kernel_rfl)
theorem PJ (h1:CP z (r0 t p ck o (some 13) i j e))(h2:nZ z t p 10240 [])(h3:CE z ((r0 t p ck o (some 13) i j e).mt 0 none) [13]):CH z (r0 t p ck o (some 13) i j e) [] true ((r0 t p ck o (some 13) i j e).rd 0 none [13]):=
 z.use (hs:=[j3 (r0 t p ck o (some 13) i j e),yZ t p [],mI ((r0 t p ck o (some 13) i j e).mt 0 none) [13]]) (o:=.fz [] []) (g:=cg (gM [13])) rfl (an h3 (an h2 (an h1 trivial))) (by kernel_rfl)
theorem aN {c:Cx}{n:Nat}{x:Nm}{k:Int}{a:Nat}(e:sQ x k=some a)(g:eR k=true)(hp:List O):a9 c n hp getItem c.VT (.dat (.str x)) (.dat (.int k)) (.dat (.str [a])) hp:=(CB c n hp x k a e).ok g
theorem j4 {α:Type}(xs:List α)(x:α):sQ (xs++[x]) (-1)=some x:=by
 show(AZ (.negSucc 0) (xs++[x]).length).bind _=_
 have:AZ (.negSucc 0) (xs++[x]).length=some xs.length:=by
  show(match Nat.ble 1 (xs++[x]).length with|true=>_|false=>_)=_
  rw[A2]
  rfl
 rw[this]
 exact List.getElem?_concat_length
theorem j5 {α:Type}(xs:List α)(x:α):dX (xs++[x]) none (some (-1))=xs:=by
 show(xs++[x]).take ((xs++[x]).length-1-0)=xs
 rw[A2]
 exact List.take_left
theorem MU {l:Nat}(h:mR l)(n13:l≠13):l<55296∨56319<l:=by
 rcases gA h with h|h|h|h
 ·lia
 ·lia
 ·lia
 ·have:=h.gap
  lia
noncomputable abbrev Be (z:bS)(x:Nm)(a:Nat):Prop:=∀ hp,a9 z.c 2 hp getItem z.c.VT (.dat (.str x)) (.dat (.int (-1))) (.dat (.str [a])) hp
theorem JQ {c l:Nat}{d':Nm}(sz:Sz as k)(e0:c::d'=d)(e1:sQ d (-1)=some l)(hl:d.length≤20000)(h2l:1<d.length)(hc:mR l)(n13:l≠13)(h1:CP z (r0 t p ck o none i j e))(h2:nZ z t p k d)(h3:CE z ((r0 t p ck o none i j e).mt d.length none) d):CH z (r0 t p ck o none i j e) as true ((r0 t p ck o none i j e).rd d.length none d):=by
 subst e0
 have e13:gU l 13=false:=by rw[← bL];exact beq_eq_false_iff_ne.mpr (by lia)
 rcases MU hc n13 with q|q
 ·have g:=l4 hl (aB (t:=false) (b:= !aX l 55296) (by rw[← cN];exact congrArg (!·) (decide_eq_true (by lia))) (aB e13 (aB (t:=true) (b:=aX 1 (c::d').length) (by rw[← cN];exact decide_eq_true (by lia)) (aB (li hl) (aB (li hl) aG)))))
  rcases sz with⟨rfl,rfl⟩|rfl
  ·exact z.use (hs:=[j3 (r0 t p ck o none i j e),yZ t p (c::d'),.tst 88011024 true,.sub 89024032 (.dat (.str [l])),.tst 90015026 false,.tst 90030035 false,mI ((r0 t p ck o none i j e).mt (c::d').length none) (c::d')]) (o:=.fz [] [])
    (ob:=CE z ((r0 t p ck o none i j e).mt (c::d').length none) (c::d')∧Be z (c::d') l∧nZ z t p 10240 (c::d')∧CP z (r0 t p ck o none i j e)∧True) g ⟨h3,aN e1 rfl,h2,h1,trivial⟩ (by kernel_rfl)
  ·exact z.use (hs:=[j3 (r0 t p ck o none i j e),yZ t p (c::d'),.tst 88011024 true,.sub 89024032 (.dat (.str [l])),.tst 90015026 false,.tst 90030035 false,mI ((r0 t p ck o none i j e).mt (c::d').length none) (c::d')]) (o:=.fz [] [])
    (ob:=CE z ((r0 t p ck o none i j e).mt (c::d').length none) (c::d')∧Be z (c::d') l∧nZ z t p k (c::d')∧CP z (r0 t p ck o none i j e)∧True) g ⟨h3,aN e1 rfl,h2,h1,trivial⟩ (by kernel_rfl)
 ·have g:=l4 hl <| aB (t:=false) (b:= !aX 56319 l) (dN (a:=56319) q) <| aB (t:=true) (b:= !aX l 55296) (e9 (b:=55296) (by lia)) <| aB e13 (aB (t:=true) (b:=aX 1 (c::d').length) (by rw[← cN];exact decide_eq_true (by lia)) (aB (li hl) (aB (li hl) aG)))
  rcases sz with⟨rfl,rfl⟩|rfl
  ·exact z.use (hs:=[j3 (r0 t p ck o none i j e),yZ t p (c::d'),.tst 88011024 true,.sub 89024032 (.dat (.str [l])),.tst 90015026 false,.tst 90030035 true,.tst 90030053 false,mI ((r0 t p ck o none i j e).mt (c::d').length none) (c::d')]) (o:=.fz [] [])
    (ob:=CE z ((r0 t p ck o none i j e).mt (c::d').length none) (c::d')∧Be z (c::d') l∧nZ z t p 10240 (c::d')∧CP z (r0 t p ck o none i j e)∧True) g ⟨h3,aN e1 rfl,h2,h1,trivial⟩ (by kernel_rfl)
  ·exact z.use (hs:=[j3 (r0 t p ck o none i j e),yZ t p (c::d'),.tst 88011024 true,.sub 89024032 (.dat (.str [l])),.tst 90015026 false,.tst 90030035 true,.tst 90030053 false,mI ((r0 t p ck o none i j e).mt (c::d').length none) (c::d')]) (o:=.fz [] [])
    (ob:=CE z ((r0 t p ck o none i j e).mt (c::d').length none) (c::d')∧Be z (c::d') l∧nZ z t p k (c::d')∧CP z (r0 t p ck o none i j e)∧True) g ⟨h3,aN e1 rfl,h2,h1,trivial⟩ (by kernel_rfl)
theorem UO {c:Nat}{d' init:Nm}(sz:Sz as k)(e0:c::d'=init++[13])(hl:(init++[13]).length≤20000)(h2l:1 < (init++[13]).length)(h1:CP z (r0 t p ck o none i j e))(h2:nZ z t p k (init++[13]))(h3:CE z ((r0 t p ck o none i j e).mt (init++[13]).length (some 13)) init):CH z (r0 t p ck o none i j e) as true ((r0 t p ck o none i j e).rd (init++[13]).length (some 13) init):=by
 have e1:=j4 init 13
 have e2:=j5 init 13
 have hi:init.length≤20000:=by rw[A2]at hl;lia
 rw[← e0]at hl h2l h2 h3 e1 e2 ⊢
 have g:=l4 hi (aB (li hl) (aB (t:=true) (b:=aX 1 (c::d').length) (by rw[← cN];exact decide_eq_true (by lia)) (aB (li hl) (aB (li hl) aG))))
 rcases sz with⟨rfl,rfl⟩|rfl
 ·exact z.use (hs:=[j3 (r0 t p ck o none i j e),yZ t p (c::d'),.tst 88011024 true,.sub 89024032 (.dat (.str [13])),.sub 91042050 (.dat (.str [13])),.val 92023032 (.dat (.str init)),mI ((r0 t p ck o none i j e).mt (c::d').length (some 13)) init]) (o:=.fz [] [])
   (ob:=CE z ((r0 t p ck o none i j e).mt (c::d').length (some 13)) init∧V.dat (.str (dX (c::d') none (some (-1))))=V.dat (.str init)∧Be z (c::d') 13∧Be z (c::d') 13∧nZ z t p 10240 (c::d')∧CP z (r0 t p ck o none i j e)∧True) g ⟨h3,congrArg (λx=>V.dat (.str x)) e2,aN e1 rfl,aN e1 rfl,h2,h1,trivial⟩ (by kernel_rfl)
 ·exact z.use (hs:=[j3 (r0 t p ck o none i j e),yZ t p (c::d'),.tst 88011024 true,.sub 89024032 (.dat (.str [13])),.sub 91042050 (.dat (.str [13])),.val 92023032 (.dat (.str init)),mI ((r0 t p ck o none i j e).mt (c::d').length (some 13)) init]) (o:=.fz [] [])
   (ob:=CE z ((r0 t p ck o none i j e).mt (c::d').length (some 13)) init∧V.dat (.str (dX (c::d') none (some (-1))))=V.dat (.str init)∧Be z (c::d') 13∧Be z (c::d') 13∧nZ z t p k (c::d')∧CP z (r0 t p ck o none i j e)∧True) g ⟨h3,congrArg (λx=>V.dat (.str x)) e2,aN e1 rfl,aN e1 rfl,h2,h1,trivial⟩ (by kernel_rfl)
theorem JR {c l:Nat}{d':Nm}(e0:c::d'=d)(e1:sQ (13::d) (-1)=some l)(hl:d.length≤10240)(hc:mR l)(n13:l≠13)(h1:CP z (r0 t p ck o (some 13) i j e))(h2:nZ z t p 10240 d)(h3:CE z ((r0 t p ck o (some 13) i j e).mt d.length none) (13::d)):CH z (r0 t p ck o (some 13) i j e) [] true ((r0 t p ck o (some 13) i j e).rd d.length none (13::d)):=by
 subst e0
 have e13:gU l 13=false:=by rw[← bL];exact beq_eq_false_iff_ne.mpr (by lia)
 have hl':(13::c::d').length≤20000:=by rw[B3];lia
 have g0:cg [(true,aX 1 (13::c::d').length),(true,Nat.ble (13::c::d').length lim),(true,Nat.ble ([13].length+(c::d').length) lim)]=true:=aB (by rw[← cN];exact decide_eq_true (by rw[B3,B3];lia)) (aB (li hl') (aB (li (by show 1+_≤_;lia)) aG))
 rcases MU hc n13 with q|q
 ·exact z.use (hs:=[j3 (r0 t p ck o (some 13) i j e),yZ t p (c::d'),.tst 88011024 true,.sub 89024032 (.dat (.str [l])),.tst 90015026 false,.tst 90030035 false,mI ((r0 t p ck o (some 13) i j e).mt (c::d').length none) (13::c::d')]) (o:=.fz [] [])
   (g:=cg (gM (13::c::d')++[(false,!aX l 55296),(false,gU l 13),(true,aX 1 (13::c::d').length),(true,Nat.ble (13::c::d').length lim),(true,Nat.ble ([13].length+(c::d').length) lim)]))
   (ob:=CE z ((r0 t p ck o (some 13) i j e).mt (c::d').length none) (13::c::d')∧Be z (13::c::d') l∧nZ z t p 10240 (c::d')∧CP z (r0 t p ck o (some 13) i j e)∧True) (l4 hl' (aB (by rw[← cN];exact congrArg (!·) (decide_eq_true (by lia))) (aB e13 g0))) ⟨h3,aN e1 rfl,h2,h1,trivial⟩ (by kernel_rfl)
 ·exact z.use (hs:=[j3 (r0 t p ck o (some 13) i j e),yZ t p (c::d'),.tst 88011024 true,.sub 89024032 (.dat (.str [l])),.tst 90015026 false,.tst 90030035 true,.tst 90030053 false,mI ((r0 t p ck o (some 13) i j e).mt (c::d').length none) (13::c::d')]) (o:=.fz [] [])
   (g:=cg (gM (13::c::d')++[(false,!aX 56319 l),(true,!aX l 55296),(false,gU l 13),(true,aX 1 (13::c::d').length),(true,Nat.ble (13::c::d').length lim),(true,Nat.ble ([13].length+(c::d').length) lim)]))
   (ob:=CE z ((r0 t p ck o (some 13) i j e).mt (c::d').length none) (13::c::d')∧Be z (13::c::d') l∧nZ z t p 10240 (c::d')∧CP z (r0 t p ck o (some 13) i j e)∧True) (l4 hl' (aB (dN (a:=56319) q) (aB (e9 (b:=55296) (by lia)) (aB e13 g0)))) ⟨h3,aN e1 rfl,h2,h1,trivial⟩ (by kernel_rfl)
theorem UP {c:Nat}{d' init:Nm}(e0:c::d'=init++[13])(hl:(init++[13]).length≤10240)(h1:CP z (r0 t p ck o (some 13) i j e))(h2:nZ z t p 10240 (init++[13]))(h3:CE z ((r0 t p ck o (some 13) i j e).mt (init++[13]).length (some 13)) (13::init)):CH z (r0 t p ck o (some 13) i j e) [] true ((r0 t p ck o (some 13) i j e).rd (init++[13]).length (some 13) (13::init)):=by
 have e1:=j4 (13::init) 13
 have e2:=j5 (13::init) 13
 rw[show(13::init)++[13]=13::(init++[13])from rfl]at e1 e2
 have hi:(13::init).length≤20000:=by rw[A2]at hl;rw[B3];lia
 rw[← e0]at hl h2 h3 e1 e2 ⊢
 have hl':(13::c::d').length≤20000:=by rw[B3];lia
 exact z.use (hs:=[j3 (r0 t p ck o (some 13) i j e),yZ t p (c::d'),.tst 88011024 true,.sub 89024032 (.dat (.str [13])),.sub 91042050 (.dat (.str [13])),.val 92023032 (.dat (.str (13::init))),mI ((r0 t p ck o (some 13) i j e).mt (c::d').length (some 13)) (13::init)]) (o:=.fz [] [])
   (g:=cg (gM (13::init)++[(true,Nat.ble (13::c::d').length lim),(true,aX 1 (13::c::d').length),(true,Nat.ble (13::c::d').length lim),(true,Nat.ble ([13].length+(c::d').length) lim)]))
   (ob:=CE z ((r0 t p ck o (some 13) i j e).mt (c::d').length (some 13)) (13::init)∧V.dat (.str (dX (13::c::d') none (some (-1))))=V.dat (.str (13::init))∧Be z (13::c::d') 13∧Be z (13::c::d') 13∧nZ z t p 10240 (c::d')∧CP z (r0 t p ck o (some 13) i j e)∧True)
   (l4 hi (aB (li hl') (aB (by rw[← cN];exact decide_eq_true (by rw[B3,B3];lia)) (aB (li hl') (aB (li (by show 1+_≤_;lia)) aG))))) ⟨h3,congrArg (λx=>V.dat (.str x)) e2,aN e1 rfl,aN e1 rfl,h2,h1,trivial⟩ (by kernel_rfl)
end
end
section
noncomputable def md:Bool→Nm→Nm
 |_,[]=>[]
 |b,c::r=>bif Nat.beq c 13 then 10::md true r else bif b&&Nat.beq c 10 then md false r else c::md false r
theorem gL (b:Bool)(c:Nat)(r:Nm):md b (c::r)=bif Nat.beq c 13 then 10::md true r else bif b&&Nat.beq c 10 then md false r else c::md false r:=rfl
noncomputable def Rw:Bool→Nm→Bool
 |b,[]=>b
 |_,c::r=>Rw (Nat.beq c 13) r
theorem dO {a b:Nat}(h:a≠b):Nat.beq a b=false:=by rw[q0];exact decide_eq_false h
theorem n1:∀ (b:Bool) (x y:Nm),md b (x++y)=md b x++md (Rw b x) y
 |_,[],_=>rfl
 |b,c::r,y=>by
  show md b (c::(r++y))=md b (c::r)++md (Rw (Nat.beq c 13) r) y
  rw[gL,gL]
  cases e:Nat.beq c 13 with
  |true=>exact congrArg (10::·) (n1 true r y)
  |false=>cases(b&&Nat.beq c 10)with
   |true=>exact n1 false r y
   |false=>exact congrArg (c::·) (n1 false r y)
theorem EI (l:Nm)(c:Nat):gR [13] [10] 0 (c::l)=(if c=13 then 10 else c)::gR [13] [10] 0 l:=by
 rw[gR]
 by_cases h:c=13
 ·subst h;simp[List.isPrefixOf]
 ·rw[if_neg (by simp[List.isPrefixOf,Ne.symm h]),if_neg h]
theorem j6:∀ (n:Nat) (d:Nm),d.length≤n→bG d=md false d
 |_,[],_=>rfl
 |0,_::_,h=>absurd h (by simp)
 |n+1,c::r,h=>by
  have hr:r.length≤n:=by simpa using h
  unfold bG
  by_cases q:c=13
  ·subst q
   cases r with
   |nil=>rfl
   |cons k r'=>
    by_cases e:k=10
    ·subst e
     have h1:gR [13,10] [10] 0 (13::10::r')=10::gR [13,10] [10] 0 r':=by
      rw[gR,if_pos (by simp[List.isPrefixOf])];rfl
     rw[h1,EI,if_neg (by decide)]
     exact congrArg (10::·) (j6 n r' (Nat.le_of_succ_le hr))
    ·have h1:gR [13,10] [10] 0 (13::k::r')=13::gR [13,10] [10] 0 (k::r'):=by
      rw[gR,if_neg (by simp[List.isPrefixOf,Ne.symm e])]
     rw[h1,EI,if_pos rfl]
     refine congrArg (10::·) ((j6 n (k::r') hr).trans ?_)
     rw[gL,gL,dO e]
     rfl
  ·have h1:gR [13,10] [10] 0 (c::r)=c::gR [13,10] [10] 0 r:=by
    rw[gR,if_neg (by simp[List.isPrefixOf,Ne.symm q])]
   rw[h1,EI,if_neg q]
   refine(congrArg (c::·) (j6 n r hr)).trans ?_
   rw[gL,dO q]
   rfl
theorem eK (d:Nm):bG d=md false d:=j6 d.length d (A7 _)
theorem UQ (b:Bool){c:Nat}{r:Nm}(h:b=false):md b (c::r)≠[]:=by
 subst h
 rw[gL]
 cases Nat.beq c 13 with
 |true=>exact nofun
 |false=>exact nofun
theorem tM {d:Nm}(h:d≠[]):bG d≠[]:=by
 rw[eK]
 cases d with
 |nil=>exact absurd rfl h
 |cons c r=>exact UQ false rfl
theorem n3:∀ (b:Bool) (x:Nm) (c:Nat),Rw b (x++[c])=Nat.beq c 13
 |_,[],_=>rfl
 |_,k::x,c=>n3 (Nat.beq k 13) x c
theorem lG {a b:Nm}(h:Rw false a=false):bG a++bG b=bG (a++b):=by
 rw[eK,eK,eK,n1,h]
theorem tN (init b:Nm):bG init++bG (13::b)=bG (init++13::b):=by
 rw[eK,eK,eK,n1]
 exact congrArg (md false init++·) (by cases Rw false init <;>rfl)
structure Rd (z:bS) (as:List V) (r r':Stm):Prop where
 call:CH z r as true r'
 ok:r'.Ok
 off:r'.off=0
 ne:r'.chunk≠[]
 eq:r'.chunk++bG r'.rest=bG r.rest
 less:r'.rest.length<r.rest.length
 pos:(r'.ln,r'.cl)=gV (r.ln,r.cl) r.chunk
 er:r'.er+cY r'.rest=r.er+cY r.rest
section
variable {z:bS}
theorem EJ (z:bS)(r:Stm):CP z r:=by
 have h:=MT z (r:=r) (A7 r.chunk.length)
 unfold JO at h
 rw[List.take_length]at h
 exact h
theorem tO {r:Stm}(ok:r.Ok)(h:r.rest=[]):CH z r [] false (r.mt 0 none):=by
 obtain⟨t,p,ck,o,b,i,j,e⟩:=r
 have hd:t.drop p=[]:=(List.append_eq_nil_iff.mp h).2
 have hb:=(List.append_eq_nil_iff.mp h).1
 have h2:nZ z t p 10240 ((t.drop p).take 10240):=rL z ok.pl ok.len
 rw[hd]at h2
 cases b with
 |some c=>cases hb
 |none=>exact PH (EJ z _) h2
theorem v9 {x y:Nm}(h:0<x.length):y.length < (x++y).length:=A2▸Nat.lt_add_of_pos_left h
theorem y5 {a:Nat}{z x y:Nm}(e:z=(a::x)++y):y.length<z.length:=e▸v9 (Nat.succ_pos _)
theorem qG (i:Nm)(l:Nat):∃ c d',c::d'=i++[l]:=by
 cases i with
 |nil=>exact⟨_,_,rfl⟩
 |cons c i=>exact⟨_,_,rfl⟩
theorem n4 {t:Nm}{p o e:Nat}{ck:Nm}{i j:Int}{b:Option Nat}(ok:(r0 t p ck o b i j e).Ok){as:List V}{part tail d:Nm}{b':Option Nat}(ht:t.drop p=part++tail)(hd:d≠[])(hl:d.length≤20000)(hb:b'=none∨b'=some 13)
  (hm:bG d++bG (b'.toList++tail)=bG (b.toList++(part++tail)))(hs:(b'.toList++tail).length < (b.toList++(part++tail)).length)(he:cY d+cY (b'.toList++tail)=cY (b.toList++(part++tail)))
  (h:CE z ((r0 t p ck o b i j e).mt part.length b') d→CH z (r0 t p ck o b i j e) as true ((r0 t p ck o b i j e).rd part.length b' d))(hg:∀ c∈d,mR c):Rd z as (r0 t p ck o b i j e) ((r0 t p ck o b i j e).rd part.length b' d):=by
 have h1:=ok.er
 have hl2:t.drop (p+part.length)=tail:=by rw[← List.drop_drop,ht,List.drop_left]
 have hr:(r0 t p ck o b i j e).rest=b.toList++(part++tail):=congrArg (b.toList++·) ht
 have hr':((r0 t p ck o b i j e).rd part.length b' d).rest=b'.toList++tail:=congrArg (b'.toList++·) hl2
 rw[hr]at h1
 have h1:e+cY (b.toList++(part++tail))≤10240:=h1
 have hpl:p+part.length≤t.length:=by
  have:=congrArg List.length ht
  rw[List.length_drop,A2]at this
  have:=ok.pl
  have:p≤t.length:=this
  lia
 exact⟨h (PG z hg (show e+_≤_ by lia)),⟨hpl,ok.len,ok.sg,hb,Nat.zero_le _,yY hl,by rw[hr'];show e+cY d+_≤_;lia⟩,rfl,tM hd,by rw[hr',hr];exact hm,by rw[hr',hr];exact hs,rfl,by rw[hr',hr];show e+cY d+_=e+_;lia⟩
theorem EK:mR 13:=(rfl:HJ 13=true)
theorem lH {r:Stm}{as:List V}{k:Nat}(ok:r.Ok)(sz:Sz as k)(hb:as≠[]→r.buf=none)(hk:2≤k)(hbig:as≠[]→2≤(r.text.drop r.place).length)(h:r.rest≠[]):∃ r',Rd z as r r':=by
 obtain⟨t,p,ck,o,b,i,j,e⟩:=r
 have h1:=EJ z (r0 t p ck o b i j e)
 have h2:nZ z t p k ((t.drop p).take k):=rL z ok.pl ok.len
 have hs:∀ c∈t.drop p,mR c:=λc m=>ok.sg c (List.mem_of_mem_drop m)
 have hl:(t.drop p).length≤10240:=by rw[List.length_drop];have:=ok.len;exact A5 (Nat.sub_le _ _) this
 have hh:(b.toList++t.drop p)≠[]:=h
 have ht:t.drop p=(t.drop p).take k++(t.drop p).drop k:=(List.take_append_drop ..).symm
 have hone:((t.drop p).take k).length≤1→(t.drop p).drop k=[]:=λq=>List.drop_eq_nil_of_le (by rw[List.length_take]at q;lia)
 have hle:((t.drop p).take k).length≤10240:=by rw[List.length_take];lia
 generalize (t.drop p).take k=part at *
 generalize (t.drop p).drop k=tail at *
 have hs:∀ c∈part++tail,mR c:=by rw[← ht];exact hs
 have hsp:∀ c∈part,mR c:=λc m=>hs c (List.mem_append_left _ m)
 rw[ht]at hh
 have hbb:b=none∨b=some 13:=ok.buf
 rcases List.eq_nil_or_concat part with rfl|⟨init,l,rfl⟩
 ·have ht0:=hone (Nat.zero_le _)
  subst ht0
  rcases hbb with rfl|rfl
  ·exact absurd rfl hh
  ·have has:as=[]:=Classical.byContradiction λq=>nomatch hb q
   subst has
   rcases sz with⟨_,rfl⟩|q
   ·exact⟨_,n4 (b':=none) (d:=[13]) ok ht nofun (by decide) (.inl rfl) (B1 _) Nat.zero_lt_one rfl (λh3=>PJ h1 h2 h3) λc m=>by rw[List.mem_singleton.mp m];exact EK⟩
   ·cases q
 ·rw[List.concat_eq_append]at *
  have hcl:mR l:=hsp l (List.mem_append_right _ (.head _))
  rcases hbb with rfl|rfl
  ·cases init with
   |nil=>
    have ht0:=hone (A7 _)
    subst ht0
    by_cases has:as=[]
    ·subst has
     rcases sz with⟨_,rfl⟩|q
     ·exact⟨_,n4 (b':=none) (d:=[l]) ok ht nofun (by decide:1≤20000) (.inl rfl) (B1 _) Nat.zero_lt_one rfl (λh3=>PI h1 h2 h3) hsp⟩
     ·cases q
    ·exact absurd (hbig has) (by rw[show t.drop p=_ from ht];exact Nat.lt_irrefl 1)
   |cons c init=>
    have h1l:1 < ((c::init)++[l]).length:=A2▸Nat.succ_lt_succ (Nat.succ_pos _)
    have hl':((c::init)++[l]).length≤20000:=A5 hle (by decide)
    by_cases e:l=13
    ·subst e
     have ap:((c::init)++[13])++tail=(c::init)++13::tail:=B2 (c::init) [13] tail
     exact⟨_,n4 (b':=some 13) (d:=c::init) ok ht nofun (A5 (A2▸Nat.le_add_right _ _) hl') (.inr rfl) ((tN _ _).trans (congrArg bG ap.symm)) (y5 ap) ((hU (c::init) (13::tail)).symm.trans (congrArg cY ap.symm)) (λh3=>UO (c:=c) (d':=init++[13]) sz rfl hl' h1l h1 h2 h3) λx m=>hsp x (List.mem_append_left _ m)⟩
    ·exact⟨_,n4 (b':=none) (d:=(c::init)++[l]) ok ht nofun hl' (.inl rfl) (lG (by rw[n3];exact dO e)) (v9 (Nat.lt_trans Nat.zero_lt_one h1l)) (hU _ _).symm (λh3=>JQ (c:=c) (d':=init++[l]) sz rfl (j4 (c::init) l) hl' h1l hcl e h1 h2 h3) hsp⟩
  ·have has:as=[]:=Classical.byContradiction λq=>nomatch hb q
   subst has
   rcases sz with⟨_,rfl⟩|q
   ·by_cases e:l=13
    ·subst e
     have em:(some 13:Option Nat).toList++((init++[13])++tail)=(13::init)++13::tail:=congrArg (13::·) (B2 init [13] tail)
     obtain⟨c,d',e0⟩:=qG init 13
     exact⟨_,n4 (b':=some 13) (d:=13::init) ok ht nofun (A5 (A2 (as:=init) (bs:=[13])▸hle:init.length+1≤10240) (by decide)) (.inr rfl) ((tN _ _).trans (congrArg bG em.symm)) (y5 em) ((hU (13::init) (13::tail)).symm.trans (congrArg cY em.symm)) (λh3=>UP e0 hle h1 h2 h3) λx m=>(List.mem_cons.mp m).elim (λe=>e▸EK) λm=>hsp x (List.mem_append_left _ m)⟩
    ·obtain⟨c,d',e0⟩:=qG init l
     exact⟨_,n4 (b':=none) (d:=13::(init++[l])) ok ht nofun (A5 (Nat.succ_le_succ hle) (by decide)) (.inl rfl) (lG (by rw[show 13::(init++[l])=(13::init)++[l]from rfl,n3];exact dO e)) (v9 (x:=13::(init++[l])) (Nat.succ_pos _)) (hU (13::(init++[l])) tail).symm (λh3=>JR e0 (j4 (13::init) l) hle hcl e h1 h2 h3) λx m=>(List.mem_cons.mp m).elim (λe=>e▸EK) λm=>hsp x m⟩
   ·cases q
end
end
section
noncomputable def rM:Nm:=[99,104,97,114]
noncomputable def Pre (a b:Nm):Prop:=(∃ z,a=b++z)∨∃ z,b=a++z
structure At' (T:Nm) (x:Bool) (E:Nat) (r:Stm) (ms l:Nm):Prop where
 ok:r.Ok
 len:l.length≤15000
 eq:l=r.chunk.drop r.off++bG r.rest
 pre:Pre (r.chunk.take r.off).reverse ms
 st:x=true→∃ p,T=p++(r.chunk.take r.off++l)∧(r.ln,r.cl)=gV (0,0) p
 fr:x=true→ms≠[]→0<r.off
 er:r.er+cY r.rest=E
theorem Pre.nil {a:Nm}:Pre a []:=.inl ⟨a,rfl⟩
theorem Pre.top {ms:Nm}:Pre [] ms:=.inr ⟨ms,rfl⟩
theorem Pre.cons {c:Nat}{a ms:Nm}:Pre a ms→Pre (c::a) (c::ms)
 |.inl ⟨y,e⟩=>.inl ⟨y,congrArg (c::·) e⟩
 |.inr ⟨y,e⟩=>.inr ⟨y,congrArg (c::·) e⟩
theorem Pre.tail {c d:Nat}{a ms:Nm}:Pre (c::a) (d::ms)→c=d∧Pre a ms
 |.inl ⟨y,e⟩=>(List.cons.inj e).imp id λe=>.inl ⟨y,e⟩
 |.inr ⟨y,e⟩=>(List.cons.inj e).imp Eq.symm λe=>.inr ⟨y,e⟩
theorem At'.none {T:Nm}{x:Bool}{E:Nat}{r:Stm}{ms l:Nm}(h:At' T x E r ms l):At' T x E r [] l:=⟨h.ok,h.len,h.eq,.nil,h.st,λ_ q=>absurd rfl q,h.er⟩
theorem At'.lose {T:Nm}{x:Bool}{E:Nat}{r:Stm}{ms l:Nm}(h:At' T x E r ms l):At' T false E r ms l:=⟨h.ok,h.len,h.eq,h.pre,nofun,nofun,h.er⟩
theorem BB {d:Nm}(h:bG d=[]):d=[]:=Classical.byContradiction λq=>tM q h
theorem At'.chk {T:Nm}{x:Bool}{E:Nat}{r:Stm}{ms l:Nm}(h:At' T x E r ms l):r.chunk.length-r.off≤15000:=by
 have:=congrArg List.length h.eq
 rw[A2,List.length_drop]at this
 have:=h.len
 lia
noncomputable abbrev aT (z:bS)(r:Stm)(v:V)(r':Stm):Prop:=CallOk z.c 4 133 [.ref 0] (SL r) v (SL r')
noncomputable abbrev cD (z:bS)(r:Stm)(v:V)(r':Stm):Prop:=CallOk z.c 1 163 [.ref 0,v] (SL r) (.dat .non) (SL r')
noncomputable abbrev Rx (k:Bool)(r:Stm):Hi:=.cal 141 3 [0,1,2,3,4] (.dat (.boo k)) (SL r)
section
variable {z:bS}{t ck:Nm}{p o e:Nat}{b:Option Nat}{i j:Int}{T:Nm}{x:Bool}{E:Nat}
theorem mS {α:Type}(xs:List α){k:Nat}{x:α}(h:xs[k]? =some x):sQ xs (k:Int)=some x:=by
 have hl:=(List.getElem?_eq_some_iff.mp h).1
 show(match Nat.blt k xs.length with|true=>some k|false=>none).bind _=_
 rw[show Nat.blt k xs.length=true from A4 hl]
 exact h
theorem BC {c:Nat}(h:ck[o]? =some c)(hl:ck.length≤20000):aT z (r0 t p ck o b i j e) (.dat (.str [c])) (r0 t p ck (o+1) b i j e):=
 have lt:=(List.getElem?_eq_some_iff.mp h).1
 z.use (hs:=[.tst 67011045 false,.sub 71015038 (.dat (.str [c]))]) (o:=.fz [] []) (g:=cg [(false,!aX o ck.length)])
  (ob:=(∀ hp,a9 z.c 3 hp getItem z.c.VT (.dat (.str ck)) (.dat (.int o)) (.dat (.str [c])) hp)∧True)
  (aB (by rw[← cN];exact congrArg (!·) (decide_eq_true (by lia))) aG) ⟨aN (mS ck h) (li (by lia)),trivial⟩ (by kernel_rfl)
theorem BD {c:Nat}{r':Nm}(h:ck.length≤o){b1:Option Nat}{t1:Nm}{p1 e1:Nat}{i1 j1:Int}(hr:CH z (r0 t p ck o b i j e) [] true (r0 t1 p1 (c::r') 0 b1 i1 j1 e1)):aT z (r0 t p ck o b i j e) (.dat (.str [c])) (r0 t1 p1 (c::r') 1 b1 i1 j1 e1):=
 z.use (hs:=[.tst 67011045 true,Rx true (r0 t1 p1 (c::r') 0 b1 i1 j1 e1)]) (o:=.fz [] []) (g:=cg [(true,!aX o ck.length)]) (aB (by rw[← cN];exact congrArg (!·) (decide_eq_false (by lia))) aG) (an hr trivial) (by kernel_rfl)
theorem EM (h:ck.length≤o){r':Stm}(hr:CH z (r0 t p ck o b i j e) [] false r'):aT z (r0 t p ck o b i j e) (.dat .non) r':=
 z.use (hs:=[.tst 67011045 true,Rx false r']) (o:=.fz [] []) (g:=cg [(true,!aX o ck.length)]) (aB (by rw[← cN];exact congrArg (!·) (decide_eq_false (by omega))) aG) (an hr trivial) (by kernel_rfl)
theorem bY {r:Stm}{ms l:Nm}{c:Nat}(h:At' T x E r ms (c::l)):∃ r',aT z r (.dat (.str [c])) r'∧At' T x E r' (c::ms) l:=by
 obtain⟨t,p,ck,o,b,i,j,e⟩:=r
 have he:c::l=ck.drop o++bG (r0 t p ck o b i j e).rest:=h.eq
 have hle:l.length≤15000:=Nat.le_of_succ_le h.len
 have hst:x=true→∃ q,T=q++(ck.take o++c::l)∧(i,j)=gV (0,0) q:=h.st
 cases q:ck[o]? with
 |some k=>
  have hl:=(List.getElem?_eq_some_iff.mp q).1
  have hd:ck.drop o=k::ck.drop (o+1):=by rw[List.drop_eq_getElem_cons hl,(List.getElem?_eq_some_iff.mp q).2]
  rw[hd]at he
  obtain⟨rfl,he'⟩:=List.cons.inj he
  have ht:ck.take (o+1)=ck.take o++[c]:=by rw[List.take_add_one,q];rfl
  refine⟨_,BC q h.ok.chk,⟨h.ok.pl,h.ok.len,h.ok.sg,h.ok.buf,hl,h.ok.chk,h.ok.er⟩,hle,he',?_,λy=>(hst y).elim λp' w=>⟨p',by rw[w.1];show _=_++(ck.take (o+1)++_);rw[ht,B2];rfl,w.2⟩,λ_ _=>Nat.succ_pos _,h.er⟩
  show Pre (ck.take (o+1)).reverse (c::ms)
  rw[ht,List.reverse_append]
  exact h.pre.cons
 |none=>
  have hl:=List.getElem?_eq_none_iff.mp q
  rw[List.drop_of_length_le hl,List.nil_append]at he
  rw[List.take_of_length_le hl]at hst
  obtain⟨⟨t1,p1,ck1,o1,b1,i1,j1,e1⟩,hc,ok,ho,hn,hq,_,hp,her⟩:=lH (z:=z) h.ok (.inl ⟨rfl,rfl⟩) nofun (by decide) nofun (by intro e;rw[e]at he;cases he)
  have ho:o1=0:=ho
  subst ho
  have hq:ck1++bG (r0 t1 p1 ck1 0 b1 i1 j1 e1).rest=bG (r0 t p ck o b i j e).rest:=hq
  rw[← he]at hq
  cases ck1 with
  |nil=>exact absurd rfl hn
  |cons k r'=>
   obtain⟨rfl,hq'⟩:=List.cons.inj hq
   exact⟨_,BD hl hc,⟨ok.pl,ok.len,ok.sg,ok.buf,Nat.succ_le_succ (Nat.zero_le _),ok.chk,ok.er⟩,hle,hq'.symm,Pre.top.cons,λy=>(hst y).elim λp' w=>⟨p'++ck,by rw[w.1,B2];rfl,(hp.trans (by show gV (i,j) ck=_;rw[w.2,iD]):(i1,j1)=gV (0,0) (p'++ck))⟩,λ_ _=>Nat.succ_pos _,her.trans h.er⟩
theorem dU {r:Stm}{ms:Nm}(h:At' T x E r ms []):∃ r',aT z r (.dat .non) r'∧At' T x E r' [] []:=by
 obtain⟨t,p,ck,o,b,i,j,e⟩:=r
 have he:=List.append_eq_nil_iff.mp h.eq.symm
 have hr:=BB he.2
 have hc:=tO (z:=z) h.ok hr
 have hl:ck.length≤o:=List.drop_eq_nil_iff.mp he.1
 have hst:x=true→∃ q,T=q++(ck.take o++[])∧(i,j)=gV (0,0) q:=h.st
 have hb:b=none:=by cases b with|none=>rfl|some k=>cases(List.append_eq_nil_iff.mp hr).1
 subst hb
 exact⟨_,EM hl hc,⟨⟨h.ok.pl,h.ok.len,h.ok.sg,.inl rfl,A7 _,Nat.zero_le _,h.ok.er⟩,Nat.zero_le _,by show []=[]++bG (r0 t p ck o none i j e).rest;rw[hr];rfl,.nil,λy=>(hst y).elim λp' w=>⟨p'++ck,by rw[w.1,List.take_of_length_le hl,B1];exact(B1 _).symm,by rw[iD,← w.2]⟩,λ_ q=>absurd rfl q,h.er⟩⟩
theorem dE {r:Stm}:cD z r (.dat .non) r:=z.use (hs:=[]) (o:=.fz [] []) (g:=true) rfl trivial (by kernel_rfl)
theorem JS {c:Nat}(hl:ck.length≤15000):cD z (r0 t p ck 0 b i j e) (.dat (.str [c])) (r0 t p (c::ck) 0 b i j e):=
 z.use (hs:=[]) (o:=.fz [] []) (g:=cg [(true,Nat.ble ([c].length+ck.length) lim)]) (aB (li (by show 1+_≤_;lia)) aG) trivial (by kernel_rfl)
theorem JU {c:Nat}(h:ck[o]? =some c)(hl:o≤20000):cD z (r0 t p ck (o+1) b i j e) (.dat (.str [c])) (r0 t p ck o b i j e):=
 z.use (hs:=[.led 132 (SL (r0 t p ck o b i j e)++[.fr [(d8,.ref 0),(rM,.dat (.str [c]))]]),.sub 132023051 (.dat (.str [c])),.tst 132023059 true]) (o:=.fz [] []) (g:=cg [(true,nb [c] [c])])
  (ob:=(∀ hp,a9 z.c 0 hp getItem z.c.VT (.dat (.str ck)) (.dat (.int o)) (.dat (.str [c])) hp)∧(SL (r0 t p ck (o+1) b i j e)).set 1 (.ns [(dT,.mth 148 0),(nY,.dat (.lst [.int 0])),(j2,.ref 2),(yW,.dat (.str ck)),(l3,.dat (.int ck.length)),(iX,.dat (.int (((o+1:Nat):Int)-1))),
  (tL,.ref 4),(hS,.dat (.int i)),(iY,.dat (.int j)),(eJ,.dat (UJ b))])++[.fr [(d8,.ref 0),(rM,.dat (.str [c]))]]=SL (r0 t p ck o b i j e)++[.fr [(d8,.ref 0),(rM,.dat (.str [c]))]]∧True)
  (aB (eW _) aG) ⟨aN (mS ck h) (li hl),by rw[show((o+1:Nat):Int)-1=o by lia];rfl,trivial⟩ (by kernel_rfl)
theorem fA {r:Stm}{ms l:Nm}{c:Nat}(h:At' T x E r (c::ms) l)(hl:l.length<15000){y:Bool}{ms':Nm}(hy:(y=false∧ms'=ms)∨(y=x∧ms'=[])):∃ r',cD z r (.dat (.str [c])) r'∧At' T y E r' ms' (c::l):=by
 obtain⟨t,p,ck,o,b,i,j,e⟩:=r
 have he:l=ck.drop o++bG (r0 t p ck o b i j e).rest:=h.eq
 have hk:ck.length-o≤15000:=h.chk
 have hf:y=true→ms'≠[]→0 < (o-1):=λw n=>hy.elim (λq=>nomatch q.1.symm.trans w) λq=>absurd q.2 n
 have hms:∀ {a:Nm},Pre a ms→Pre a ms':=λq=>hy.elim (λw=>w.2▸q) λw=>w.2 ▸ .nil
 cases o with
 |zero=>
  have hx:y=false:=hy.elim (·.1) λw=>by
   cases x with
   |false=>exact w.1
   |true=>exact absurd (h.fr rfl nofun) (Nat.lt_irrefl _)
  subst hx
  exact⟨_,JS (by lia),⟨h.ok.pl,h.ok.len,h.ok.sg,h.ok.buf,Nat.zero_le _,by show ck.length+1≤_;lia,h.ok.er⟩,hl,congrArg (c::·) he,.top,nofun,nofun,h.er⟩
 |succ o=>
  have ho:o<ck.length:=h.ok.off
  have hp:=h.pre
  have ht:ck.take (o+1)=ck.take o++[ck[o]]:=by rw[List.take_add_one,List.getElem?_eq_getElem ho];rfl
  rw[show(r0 t p ck (o+1) b i j e).chunk.take (o+1)=ck.take o++[ck[o]]from ht,List.reverse_append]at hp
  obtain⟨rfl,hp'⟩:=Pre.tail hp
  have hst:y=true→∃ q,T=q++(ck.take o++ck[o]::l)∧(i,j)=gV (0,0) q:=λw=>hy.elim (λq=>nomatch q.1.symm.trans w) λq=>(h.st (q.1.symm.trans w)).elim λp' v=>⟨p',by
   have v1:T=p'++(ck.take (o+1)++l):=v.1
   rw[v1,ht,B2];rfl,v.2⟩
  exact⟨_,JU (List.getElem?_eq_getElem ho) (A5 (Nat.le_of_lt ho) h.ok.chk),⟨h.ok.pl,h.ok.len,h.ok.sg,h.ok.buf,Nat.le_of_lt ho,h.ok.chk,h.ok.er⟩,hl,by
   show _=ck.drop o++bG (r0 t p ck (o+1) b i j e).rest
   rw[List.drop_eq_getElem_cons ho,he];rfl,hms hp',hst,λw n=>hf w n,h.er⟩
end
end
section
noncomputable def rN:Nm:=[99,104,97,114,97,99,116,101,114,115]
noncomputable def wA:Nm:=[111,112,112,111,115,105,116,101]
noncomputable def YU:Nm:=[114,118]
noncomputable def EN:Nm:=[101,110,100]
noncomputable def Bf:Fn:=iM iO [15,9] [.dat (.boo false)]
noncomputable def oW:WhlI:=Au (bV Bf.body 1)
noncomputable def iW:WhlI:=Au (bV oW.b 1)
noncomputable def UL (r:Stm)(ch:D)(opp:Bool)(vs:List V)(eo:List (Nm×V)):List O:=
 SL r++[.fr ([(d8,.ref 0),(rN,.dat ch),(wA,.dat (.boo opp)),(YU,.ref 6)]++eo),.lst vs]
noncomputable abbrev eN (e:Nat):List (Nm×V):=[(EN,.dat (.int e))]
noncomputable def tP (ch:D)(tst:Nat→Bool):Prop:=∀ (z:bS) (n:Nat) (c:Nat) (hp:List O),a9 z.c n hp (compareOp (bI .isin)) eP (.dat (.str [c])) (.dat ch) (tst c) hp
noncomputable def dA (tst:Nat→Bool)(opp:Bool)(c:Nat):Bool:=AU (tst c) opp
section
variable {z:bS}{r:Stm}{ch:D}{opp:Bool}{vs:List V}{t p ck:Nm}{tst:Nat→Bool}
noncomputable abbrev UF:Fx:=⟨5,[],true⟩
theorem PK {e:Nat}(h:e=r.chunk.length):RB z.c Bf.names 3 UF (UL r ch opp vs (eN e)) iW.t false (UL r ch opp vs (eN e)):=
 z.useT (hs:=[.tst 110018039 false]) (g:=cg [(false,!gU e r.chunk.length)]) (aB (by rw[← bL,h,beq_self_eq_true];rfl) aG) trivial (by kernel_rfl)
theorem MW {e c:Nat}{b:Bool}(T:tP ch tst)(h:r.chunk[e]? =some c)(hl:r.chunk.length≤20000)(hb:dA tst opp c=b):RB z.c Bf.names 3 UF (UL r ch opp vs (eN e)) iW.t b (UL r ch opp vs (eN e)):=by
 have lt:=(List.getElem?_eq_some_iff.mp h).1
 have h1:(!gU e r.chunk.length)=true:=by rw[← bL];exact Dz (beq_eq_false_iff_ne.mpr (by lia))
 cases b with
 |true=>
  exact z.useT (hs:=[.tst 110018039 true,.sub 110045060 (.dat (.str [c])),.cmp 110045074 (tst c),.tst 110044087 true]) (g:=cg [(true,AU (tst c) opp),(true,!gU e r.chunk.length)])
   (ob:=(∀ hp,a9 z.c 3 hp (compareOp (bI .isin)) eP (.dat (.str [c])) (.dat ch) (tst c) hp)∧(∀ hp,a9 z.c 3 hp getItem z.c.VT (.dat (.str r.chunk)) (.dat (.int e)) (.dat (.str [c])) hp)∧True)
   (aB hb (aB h1 aG)) ⟨T z 3 c,aN (mS _ h) (li (by lia)),trivial⟩ (by kernel_rfl)
 |false=>
  exact z.useT (hs:=[.tst 110018039 true,.sub 110045060 (.dat (.str [c])),.cmp 110045074 (tst c),.tst 110044087 false]) (g:=cg [(false,AU (tst c) opp),(true,!gU e r.chunk.length)])
   (ob:=(∀ hp,a9 z.c 3 hp (compareOp (bI .isin)) eP (.dat (.str [c])) (.dat ch) (tst c) hp)∧(∀ hp,a9 z.c 3 hp getItem z.c.VT (.dat (.str r.chunk)) (.dat (.int e)) (.dat (.str [c])) hp)∧True)
   (aB hb (aB h1 aG)) ⟨T z 3 c,aN (mS _ h) (li (by lia)),trivial⟩ (by kernel_rfl)
theorem JV {e:Nat}:RX z.c Bf.names 3 UF (UL r ch opp vs (eN e)) iW.b .next (UL r ch opp vs (eN (e+1))):=z.useX (hs:=[]) (g:=true) rfl trivial (by kernel_rfl)
theorem EO (T:tP ch tst)(hl:r.chunk.length≤20000):∀ (t:Nm) (e:Nat),r.chunk.drop e=t→e≤r.chunk.length→
  mB z.c Bf.names 3 UF iW.t iW.b 7 (t.length+1) (UL r ch opp vs (eN e)) .next (UL r ch opp vs (eN (e+(t.takeWhile (dA tst opp)).length)))
 | [],e,h,he=>.stop (PK (Nat.le_antisymm he (List.drop_eq_nil_iff.mp h)))
 |c::t,e,h,_=>by
  have hc:r.chunk[e]? =some c:=by have:=congrArg (·[0]?) h;simpa using this
  have ht:r.chunk.drop (e+1)=t:=by rw[← List.drop_drop,h];rfl
  have lt:=(List.getElem?_eq_some_iff.mp hc).1
  cases hp:dA tst opp c with
  |false=>rw[List.takeWhile_cons_of_neg (by rw[hp];exact A8)];exact .stop (MW T hc hl hp)
  |true=>
   rw[List.takeWhile_cons_of_pos hp,show e+(c::t.takeWhile (dA tst opp)).length=(e+1)+(t.takeWhile (dA tst opp)).length by rw[B3];lia]
   exact .turn (MW T hc hl hp) JV rfl .id (EO T hl t (e+1) ht lt)
noncomputable abbrev IS (z:bS)(r:Stm)(ch:D)(opp:Bool)(vs:List V)(u:Nat):Prop:=RS z.c Bf.names 3 UF (UL r ch opp vs (eN r.off)) iW.s .next (UL r ch opp vs (eN (r.off+u)))
theorem EP (T:tP ch tst)(ok:r.Ok):IS z r ch opp vs ((r.chunk.drop r.off).takeWhile (dA tst opp)).length:=i9 (EO T ok.chk _ _ rfl ok.off)
theorem rO {eo:List (Nm×V)}:RB z.c Bf.names 3 UF (UL r ch opp vs eo) oW.t true (UL r ch opp vs eo):=z.useT (hs:=[]) (g:=true) rfl trivial (by kernel_rfl)
theorem UR {eo:List (Nm×V)}(ho:eo=[]∨∃ v,eo=[(EN,v)]):RS z.c Bf.names 3 UF (UL r ch opp vs eo) (bV oW.b 0) .next (UL r ch opp vs (eN r.off)):=by
 rcases ho with rfl|⟨v,rfl⟩
 ·exact z.useS (hs:=[]) (g:=true) rfl trivial (by kernel_rfl)
 ·exact z.useS (hs:=[]) (g:=true) rfl trivial (by kernel_rfl)
noncomputable abbrev oB:List Stmt:=oW.b.drop 1
noncomputable abbrev Ry (r:Stm)(ch:D)(opp:Bool)(vs:List V)(u:Nat):Hi:=.stm 110 .next (UL r ch opp vs (eN (r.off+u)))
noncomputable abbrev OB (z:bS)(r:Stm)(ch:D)(opp:Bool)(vs:List V)(fl:Fl)(r':Stm)(vs':List V)(u:Nat):Prop:=RX z.c Bf.names 3 UF (UL r ch opp vs (eN r.off)) oB fl (UL r' ch opp vs' (eN u))
variable {i j:Int}{e0 o pl u:Nat}{tx:Nm}{b:Option Nat}
theorem JW (hi:IS z (r0 tx pl ck o b i j e0) ch opp vs 0)(h:o≠ck.length):OB z (r0 tx pl ck o b i j e0) ch opp vs .brk (r0 tx pl ck o b i j e0) vs o:=
 z.useX (hs:=[Ry (r0 tx pl ck o b i j e0) ch opp vs 0,.tst 112015038 true,.tst 113019053 true]) (g:=cg [(true,!gU o ck.length),(true,gU o o)]) (aB (by rw[← bL];exact Dz (beq_eq_false_iff_ne.mpr (by lia))) (aB (by rw[← bL,beq_self_eq_true]) aG)) (an hi trivial) (by kernel_rfl)
theorem PM (hi:IS z (r0 tx pl ck o b i j e0) ch opp vs u)(h0:0<u)(h:o+u<ck.length)(hl:ck.length≤20000)(hv:vs.length≤20000)(e:dX ck (some (o:Int)) (some ((o+u:Nat):Int))=p):OB z (r0 tx pl ck o b i j e0) ch opp vs .brk (r0 tx pl ck (o+u) b i j e0) (vs++[.dat (.str p)]) (o+u):=
 z.useX (hs:=[Ry (r0 tx pl ck o b i j e0) ch opp vs u,.tst 112015038 false,.tst 115017038 true,.val 116026058 (.dat (.str p))]) (g:=cg [(true,Nat.ble vs.length lim),(true,Nat.ble ck.length lim),(true,!gU (o+u:Nat) ck.length),(false,gU (o+u:Nat) o)])
  (ob:=V.dat (.str (dX ck (some (o:Int)) (some ((o+u:Nat):Int))))=V.dat (.str p)∧IS z (r0 tx pl ck o b i j e0) ch opp vs u∧True)
  (aB (li hv) (aB (li hl) (aB (by rw[← bL];exact Dz (beq_eq_false_iff_ne.mpr (by lia))) (aB (by rw[← bL];exact beq_eq_false_iff_ne.mpr (by lia)) aG)))) ⟨congrArg (λx=>V.dat (.str x)) e,hi,trivial⟩ (by kernel_rfl)
theorem US {r':Stm}(hi:IS z (r0 tx pl ck o b i j e0) ch opp vs 0)(h:o=ck.length)(hl:ck.length≤20000)(hv:vs.length≤20000)(e:dX ck (some (o:Int)) none=p)(k:Bool)(hr:CH z (r0 tx pl ck o b i j e0) [] k r'):OB z (r0 tx pl ck o b i j e0) ch opp vs (bif k then .next else .brk) r' (vs++[.dat (.str p)]) o:=by
 have g:cg [(true,Nat.ble vs.length lim),(true,Nat.ble ck.length lim),(false,!gU o ck.length),(true,gU o o)]=true:=aB (li hv) (aB (li hl) (aB (by rw[← bL,h,beq_self_eq_true];rfl) (aB (by rw[← bL,beq_self_eq_true]) aG)))
 cases k with
 |true=>
  exact z.useX (hs:=[Ry (r0 tx pl ck o b i j e0) ch opp vs 0,.tst 112015038 true,.tst 113019053 false,.val 119022051 (.dat (.str p)),Rx true r'])
   (ob:=CH z (r0 tx pl ck o b i j e0) [] true r'∧V.dat (.str (dX ck (some (o:Int)) none))=V.dat (.str p)∧IS z (r0 tx pl ck o b i j e0) ch opp vs 0∧True) g ⟨hr,congrArg (λx=>V.dat (.str x)) e,hi,trivial⟩ (by kernel_rfl)
 |false=>
  exact z.useX (hs:=[Ry (r0 tx pl ck o b i j e0) ch opp vs 0,.tst 112015038 true,.tst 113019053 false,.val 119022051 (.dat (.str p)),Rx false r'])
   (ob:=CH z (r0 tx pl ck o b i j e0) [] false r'∧V.dat (.str (dX ck (some (o:Int)) none))=V.dat (.str p)∧IS z (r0 tx pl ck o b i j e0) ch opp vs 0∧True) g ⟨hr,congrArg (λx=>V.dat (.str x)) e,hi,trivial⟩ (by kernel_rfl)
theorem YV {r':Stm}(hi:IS z (r0 tx pl ck o b i j e0) ch opp vs u)(h0:0<u)(h:o+u=ck.length)(hl:ck.length≤20000)(hv:vs.length≤20000)(e:dX ck (some (o:Int)) none=p)(k:Bool)(hr:CH z (r0 tx pl ck o b i j e0) [] k r'):OB z (r0 tx pl ck o b i j e0) ch opp vs (bif k then .next else .brk) r' (vs++[.dat (.str p)]) (o+u):=by
 have g:cg [(true,Nat.ble vs.length lim),(true,Nat.ble ck.length lim),(false,!gU (o+u:Nat) ck.length),(false,gU (o+u:Nat) o)]=true:=aB (li hv) (aB (li hl) (aB (by rw[← bL,h,beq_self_eq_true];rfl) (aB (by rw[← bL];exact beq_eq_false_iff_ne.mpr (by lia)) aG)))
 cases k with
 |true=>
  exact z.useX (hs:=[Ry (r0 tx pl ck o b i j e0) ch opp vs u,.tst 112015038 false,.tst 115017038 false,.val 119022051 (.dat (.str p)),Rx true r'])
   (ob:=CH z (r0 tx pl ck o b i j e0) [] true r'∧V.dat (.str (dX ck (some (o:Int)) none))=V.dat (.str p)∧IS z (r0 tx pl ck o b i j e0) ch opp vs u∧True) g ⟨hr,congrArg (λx=>V.dat (.str x)) e,hi,trivial⟩ (by kernel_rfl)
 |false=>
  exact z.useX (hs:=[Ry (r0 tx pl ck o b i j e0) ch opp vs u,.tst 112015038 false,.tst 115017038 false,.val 119022051 (.dat (.str p)),Rx false r'])
   (ob:=CH z (r0 tx pl ck o b i j e0) [] false r'∧V.dat (.str (dX ck (some (o:Int)) none))=V.dat (.str p)∧IS z (r0 tx pl ck o b i j e0) ch opp vs u∧True) g ⟨hr,congrArg (λx=>V.dat (.str x)) e,hi,trivial⟩ (by kernel_rfl)
end
end
section
theorem iF {p:Nm}:∀ {vs:List V} {ss:List Nm},eE vs=some ss→eE (vs++[.dat (.str p)])=some (ss++[p])
 | [],_,h=>by cases h;rfl
 |v::vs,_,h=>by
  obtain⟨x,h1,h⟩:=aK h
  obtain⟨r,h2,rfl⟩:=bA h
  show v.strE.bind _=_
  rw[h1]
  show(eE (vs++[.dat (.str p)])).map (x::·)=_
  rw[iF h2];rfl
theorem wC {p:Nat→Bool}:∀ {a b:Nm},(∀ c∈a,p c=true)→(a++b).takeWhile p=a++b.takeWhile p∧(a++b).dropWhile p=b.dropWhile p
 | [],_,_=>⟨rfl,rfl⟩
 |c::a,b,h=>by
  have z:=wC (a:=a) (b:=b) λx m=>h x (.tail _ m)
  rw[List.cons_append,List.takeWhile_cons_of_pos (h c (.head _)),List.dropWhile_cons_of_pos (h c (.head _)),z.1]
  exact⟨rfl,z.2⟩
theorem y6 {p:Nat→Bool}:∀ {a b:Nm},(a.takeWhile p).length<a.length→(a++b).takeWhile p=a.takeWhile p∧(a++b).dropWhile p=a.drop (a.takeWhile p).length++b
 | [],_,h=>absurd h (Nat.lt_irrefl _)
 |c::a,b,h=>by
  cases q:p c with
  |false=>
   have q':¬ p c=true:=by rw[q];exact A8
   rw[List.cons_append,List.takeWhile_cons_of_neg q',List.dropWhile_cons_of_neg q',List.takeWhile_cons_of_neg q']
   exact⟨rfl,rfl⟩
  |true=>
   rw[List.takeWhile_cons_of_pos q]at h
   have z:=y6 (a:=a) (b:=b) (Nat.lt_of_succ_lt_succ h)
   rw[List.cons_append,List.takeWhile_cons_of_pos q,List.dropWhile_cons_of_pos q,List.takeWhile_cons_of_pos q,z.1]
   exact⟨rfl,z.2⟩
theorem EQ {p:Nat→Bool}:∀ {a:Nm},¬ (a.takeWhile p).length<a.length→(∀ c∈a,p c=true)∧a.takeWhile p=a
 | [],_=>⟨nofun,rfl⟩
 |c::a,h=>by
  cases q:p c with
  |false=>rw[List.takeWhile_cons_of_neg (by rw[q];exact A8)]at h;exact absurd (Nat.succ_pos _) h
  |true=>
   rw[List.takeWhile_cons_of_pos q]at h ⊢
   have z:=EQ λl=>h (Nat.succ_lt_succ l)
   exact⟨λx m=>(List.mem_cons.mp m).elim (λe=>e▸q) (z.1 x),congrArg (c::·) z.2⟩
theorem JX {α:Type}(xs:List α){a b:Nat}(h1:a≤xs.length)(h2:b≤xs.length):dX xs (some (a:Int)) (some (b:Int))=(xs.drop a).take (b-a):=by
 show(xs.drop (mn a xs.length)).take (mn b xs.length-mn a xs.length)=_
 rw[iU,iU,Nat.min_eq_left h1,Nat.min_eq_left h2]
theorem n5 {α:Type}(xs:List α){a:Nat}(h1:a≤xs.length):dX xs (some (a:Int)) none=xs.drop a:=by
 show(xs.drop (mn a xs.length)).take (xs.length-mn a xs.length)=_
 rw[iU,Nat.min_eq_left h1]
 exact List.take_of_length_le (Nat.le_of_eq List.length_drop)
structure Ud (z:bS) (T:Nm) (x:Bool) (E:Nat) (r:Stm) (ch:D) (opp:Bool) (vs:List V) (ss:List Nm) (eo:List (Nm×V)) (s l:Nm):Prop where
 h:∃ m r' vs' y ss',mB z.c Bf.names 3 UF oW.t oW.b 7 m (UL r ch opp vs eo) .next (UL r' ch opp vs' (eN y))∧eE vs'=some ss'∧ss'.flatten=ss.flatten++s∧At' T x E r' [] l
section
variable {z:bS}{ch:D}{opp:Bool}{tst:Nat→Bool}{T:Nm}{x:Bool}{E:Nat}
theorem At'.skip {r:Stm}{ms l:Nm}(a:At' T x E r ms l){u:Nat}(h:r.off+u≤r.chunk.length):At' T x E ⟨r.text,r.place,r.chunk,r.off+u,r.buf,r.ln,r.cl,r.er⟩ [] (l.drop u):=by
 have e:l.drop u=r.chunk.drop (r.off+u)++bG r.rest:=by
  rw[a.eq,List.drop_append_of_le_length (by rw[List.length_drop];omega),List.drop_drop]
 refine⟨⟨a.ok.pl,a.ok.len,a.ok.sg,a.ok.buf,h,a.ok.chk,a.ok.er⟩,by rw[List.length_drop];exact A5 (Nat.sub_le _ _) a.len,e,.nil,λy=>(a.st y).elim λp w=>⟨p,?_,w.2⟩,λ_ q=>absurd rfl q,a.er⟩
 have hl:l=(r.chunk.drop r.off).take u++l.drop u:=by
  conv=>lhs;rw[← List.take_append_drop u l]
  rw[a.eq,List.take_append_of_le_length (by rw[List.length_drop];omega)]
 rw[w.1]
 conv=>lhs;rw[hl]
 show _=p++(r.chunk.take (r.off+u)++l.drop u)
 rw[List.take_add,B2]
theorem At'.more {r r':Stm}{ms l:Nm}(a:At' T x E r ms l)(R:Rd z [] r r'):At' T x E r' [] (bG r.rest):=by
 have hl:(bG r.rest).length≤15000:=by
  have:=a.len
  rw[a.eq,A2]at this
  lia
 refine⟨R.ok,hl,by rw[R.off];exact R.eq.symm,.nil,λy=>(a.st y).elim λp w=>⟨p++r.chunk,?_,?_⟩,λ_ q=>absurd rfl q,R.er.trans a.er⟩
 ·rw[w.1,R.off,a.eq,B2]
  show _=p++(r.chunk++bG r.rest)
  rw[← B2 (r.chunk.take r.off),List.take_append_drop]
 ·rw[R.pos,w.2,iD]
theorem At'.done {r:Stm}{ms l:Nm}(a:At' T x E r ms l)(h:r.rest=[]):At' T x E (r.mt 0 Option.none) [] []:=by
 have hb:r.buf=Option.none:=by
  have:=(List.append_eq_nil_iff.mp (show r.buf.toList++_=[]from h)).1
  cases q:r.buf with
  |none=>rfl
  |some k=>rw[q]at this;cases this
 have hr:(r.mt 0 Option.none).rest=[]:=by
  have:r.rest=(r.mt 0 Option.none).rest:=by unfold Stm.rest;rw[hb];rfl
  rw[← this];exact h
 have h1:=a.ok.er
 have h2:=a.er
 rw[h]at h1 h2
 refine⟨⟨a.ok.pl,a.ok.len,a.ok.sg,.inl rfl,A7 _,Nat.zero_le _,by rw[hr];exact h1⟩,Nat.zero_le _,by rw[hr];rfl,.nil,λy=>(a.st y).elim λp w=>⟨p++r.chunk,?_,by rw[iD,← w.2]⟩,λ_ q=>absurd rfl q,by rw[hr];exact h2⟩
 have e:l=r.chunk.drop r.off:=by rw[a.eq,h];exact B1 _
 rw[w.1,e,List.take_append_drop]
 exact(B1 _).symm
theorem ES (T':tP ch tst):∀ (n:Nat) {r:Stm} {ms l:Nm} {vs:List V} {ss:List Nm} {eo:List (Nm×V)},r.rest.length<n→At' T x E r ms l→eE vs=some ss→vs.length+n≤20000→(eo=[]∨∃ v,eo=[(EN,v)])→
  Ud z T x E r ch opp vs ss eo (l.takeWhile (dA tst opp)) (l.dropWhile (dA tst opp))
 |0,_,_,_,_,_,_,hn,_,_,_,_=>absurd hn (Nat.not_lt_zero _)
 |n+1,⟨tx,pl,ck,o,b,i,j,e0⟩,ms,l,vs,ss,eo,hn,a,hs,hv,ho=>by
  have hi:IS z (r0 tx pl ck o b i j e0) ch opp vs ((ck.drop o).takeWhile (dA tst opp)).length:=EP T' a.ok
  have he:l=ck.drop o++bG (r0 tx pl ck o b i j e0).rest:=a.eq
  have ol:o≤ck.length:=a.ok.off
  have hv':vs.length≤20000:=by lia
  have hlen:(ck.drop o).length=ck.length-o:=List.length_drop
  have lst:∀ p:Nm,(ss++[p]).flatten=ss.flatten++p:=λp=>by rw[List.flatten_append,List.flatten_singleton]
  have f1:=UR (z:=z) (r:=r0 tx pl ck o b i j e0) (ch:=ch) (opp:=opp) (vs:=vs) ho
  by_cases q:((ck.drop o).takeWhile (dA tst opp)).length < (ck.drop o).length
  ·have w:=y6 (b:=bG (r0 tx pl ck o b i j e0).rest) q
   have hp:(ck.drop o).takeWhile (dA tst opp)=(ck.drop o).take ((ck.drop o).takeWhile (dA tst opp)).length:=List.prefix_iff_eq_take.mp (List.takeWhile_prefix _)
   have w2:l.dropWhile (dA tst opp)=l.drop ((ck.drop o).takeWhile (dA tst opp)).length:=by
    rw[he,w.2,List.drop_append_of_le_length (Nat.le_of_lt q)]
   rw[w2,show l.takeWhile (dA tst opp)=(ck.drop o).takeWhile (dA tst opp)from(congrArg _ he).trans w.1]
   rw[hlen]at q
   generalize (ck.drop o).takeWhile (dA tst opp)=u at *
   cases u with
   |nil=>exact⟨1,_,vs,o,ss,.out rO (cP f1 (JW hi (Nat.ne_of_lt (by have:0<ck.length-o:=q;lia)))) rfl,hs,(B1 _).symm,a.none⟩
   |cons c u=>
    have hl:o+(c::u).length<ck.length:=by lia
    exact⟨1,_,_,o+(c::u).length,_,.out rO (cP f1 (PM hi (Nat.succ_pos _) hl a.ok.chk hv' (p:=c::u) (by rw[JX _ ol (Nat.le_of_lt hl),Nat.add_sub_cancel_left];exact hp.symm))) rfl,iF hs,lst _,a.skip (Nat.le_of_lt hl)⟩
  ·have w:=EQ q
   have w2:=wC (b:=bG (r0 tx pl ck o b i j e0).rest) w.1
   rw[w.2,hlen]at hi
   rw[he,w2.1,w2.2]
   have turn:∀ (k:Bool) {r':Stm},CH z (r0 tx pl ck o b i j e0) [] k r'→∃ e,RX z.c Bf.names 3 UF (UL (r0 tx pl ck o b i j e0) ch opp vs eo) oW.b (bif k then .next else .brk) (UL r' ch opp (vs++[.dat (.str (ck.drop o))]) (eN e)):=λk r' hr=>by
    rcases Nat.lt_or_ge 0 (ck.length-o)with h0|h0
    ·exact⟨_,cP f1 (YV hi h0 (by lia) a.ok.chk hv' (n5 ck ol) k hr)⟩
    ·have h1:o=ck.length:=by lia
     rw[show ck.length-o=0 by lia]at hi
     exact⟨_,cP f1 (US hi h1 a.ok.chk hv' (n5 ck ol) k hr)⟩
   by_cases e:(r0 tx pl ck o b i j e0).rest=[]
   ·have hr:=tO (z:=z) a.ok e
    obtain⟨y,t⟩:=turn false hr
    have ad:=a.done e
    rw[e]
    exact⟨1,_,_,y,_,.out rO t rfl,iF hs,by rw[lst,show bG []=[]from rfl,List.takeWhile_nil,B1],ad⟩
   ·obtain⟨r',R⟩:=lH (z:=z) a.ok (.inl ⟨rfl,rfl⟩) nofun (by decide) nofun e
    obtain⟨y,t⟩:=turn true R.call
    have hless:=R.less
    obtain⟨m,r2,vs2,x2,ss2,g1,g2,g3,g4⟩:=(ES T' n (r:=r') (ms:=[]) (l:=bG (r0 tx pl ck o b i j e0).rest) (vs:=vs++[.dat (.str (ck.drop o))]) (eo:=eN y) (by lia) (a.more R) (iF hs) (by rw[A2];show vs.length+1+n≤_;lia) (.inr ⟨_,rfl⟩)).h
    exact⟨_+1,r2,vs2,x2,ss2,.turn rO t rfl .id g1,g2,by rw[g3,lst,B2],g4⟩
theorem wE (p:Nat→Bool):∀ l:Nm,(l.takeWhile p).length≤l.length
 | []=>A7 _
 |c::l=>by
  cases q:p c with
  |true=>rw[List.takeWhile_cons_of_pos q];exact Nat.succ_le_succ (wE p l)
  |false=>rw[List.takeWhile_cons_of_neg (by rw[q];exact A8)];exact Nat.zero_le _
theorem ET {r:Stm}(h:r.Ok):r.rest.length≤10241:=by
 unfold Stm.rest
 rw[A2,List.length_drop]
 have:=h.len
 rcases h.buf with e|e <;>rw[e]<;>simp <;>lia
noncomputable abbrev YW (z:bS)(r:Stm)(as:List V)(s:Nm)(r':Stm):Prop:=CallOk z.c 4 156 (.ref 0::as) (SL r) (.dat (.str s)) (SL r')
theorem fB {r:Stm}{ms l:Nm}(T':tP ch tst)(a:At' T x E r ms l)(as:List V)(ha:(as=[.dat ch]∧opp=false)∨as=[.dat ch,.dat (.boo opp)]):∃ r',YW z r as (l.takeWhile (dA tst opp)) r'∧At' T x E r' [] (l.dropWhile (dA tst opp)):=by
 obtain⟨m,r',vs,y,ss,g1,g2,g3,g4⟩:=(ES (z:=z) (opp:=opp) T' (r.rest.length+1) (vs:=[]) (ss:=[]) (eo:=[]) (Nat.lt_succ_self _) a rfl (by have:=ET a.ok;show 0+_≤_;lia) (.inl rfl)).h
 have g3:ss.flatten=l.takeWhile (dA tst opp):=g3
 have hs:RS z.c Bf.names 3 UF (UL r ch opp [] []) oW.s .next (UL r' ch opp vs (eN y)):=i9 g1
 have hj:eT z.c 3 (UL r' ch opp vs (eN y)) (.str [] .join) [.ref 6] (.dat (.str ss.flatten)) (UL r' ch opp vs (eN y)):=mN rfl g2 (li (by rw[g3];have:=wE (dA tst opp) l;have:=a.len;lia))
 rw[g3]at hj
 generalize l.takeWhile (dA tst opp)=s at *
 refine⟨r',?_,g4⟩
 rcases ha with⟨rfl,rfl⟩|rfl
 ·exact z.use (hs:=[.stm 108 .next (UL r' ch false vs (eN y)),.bm (.dat (.str s)) (UL r' ch false vs (eN y))]) (o:=.fz [] []) (g:=true) rfl (an hj (an hs trivial)) (by kernel_rfl)
 ·exact z.use (hs:=[.stm 108 .next (UL r' ch opp vs (eN y)),.bm (.dat (.str s)) (UL r' ch opp vs (eN y))]) (o:=.fz [] []) (g:=true) rfl (an hj (an hs trivial)) (by kernel_rfl)
end
end
section
noncomputable def n6:Nm:=[116,121,112,101]
noncomputable def fT:Nm:=[110,97,109,101]
noncomputable def tQ:Nm:=[105]
noncomputable def MX:Nm:=[116]
noncomputable def fU:Nm:=[115,101,108,102,67,108,111,115,105,110,103]
noncomputable def bX:Nm:=[115,101,108,102,67,108,111,115,105,110,103,65,99,107,110,111,119,108,101,100,103,101,100]
noncomputable def cZ:Nm:=[115,116,114,101,97,109]
noncomputable def c4:Nm:=[112,97,114,115,101,114]
noncomputable def bD:Nm:=[101,115,99,97,112,101,70,108,97,103]
noncomputable def aW:Nm:=aAt
noncomputable def d9:Nm:=[115,116,97,116,101]
noncomputable def c6:Nm:=[101,115,99,97,112,101]
noncomputable def a7:Nm:=aAx
noncomputable def cJ:Nm:=[116,111,107,101,110,81,117,101,117,101]
noncomputable def bF (c:Nat):Bool:=bU (.str [c]) [.str [9],.str [10],.str [12],.str [32],.str [13]]
noncomputable def fM (c:Nat):Bool:=match hM with
 |.tup ds=>bU (.str [c]) ds
 |_=>false
noncomputable def jH (a b c:Nat):Bool:=bU (.str [c]) [.str [a],.str [b]]
noncomputable def UT (a b d e f c:Nat):Bool:=bU (.str [c]) [.str [a],.str [b],.str [d],.str [e],.str [f]]
noncomputable def iZ (a b d c:Nat):Bool:=bU (.str [c]) [.str [a],.str [b],.str [d]]
theorem y7:tP b0 bF:=λz n c hp=>((AW z.c n hp .isin (.dat (.str [c])) (.dat b0)).get rfl).ok rfl
theorem rP (a b d:Nat):tP (.tup [.str [a],.str [b],.str [d]]) (iZ a b d):=λz n c hp=>((AW z.c n hp .isin (.dat (.str [c])) (.dat (.tup [.str [a],.str [b],.str [d]]))).get rfl).ok rfl
inductive CT where
 |dead (p:Bool) (d:D)
 |tg
 |at_ (v:Nm)
inductive Tok where
 |err (w:Nm)|chr1 (x:Nm)|chr2 (x:Nm)|stag (v:Nm)
noncomputable def tW (k:Int)(x:Nm):D:=.dct [(n6,.int k),(lC,.str x)]
noncomputable def Tok.toD:Tok→D
 |.err w=>tW 7 w
 |.chr1 x=>tW 1 x
 |.chr2 x=>tW 2 x
 |.stag v=>.dct [(n6,.int 3),(fT,.str tQ),(lC,.dct [(MX,.str v)]),(fU,.boo false),(bX,.boo false)]
noncomputable def JY:CT→V
 |.dead _ d=>.dat d
 |_=>.ref 8
noncomputable def UU:O:=.ns [(n6,.dat (.int 3)),(fT,.dat (.str tQ)),(lC,.ref 9),(fU,.dat (.boo false)),(bX,.dat (.boo false))]
noncomputable def UV:CT→List O
 |.dead p _=>match p with
  |true=>[.gone,.gone,.gone]
  |false=>[]
 |.tg=>[UU,.lst []]
 |.at_ v=>[UU,.lst [.ref 10],.lst [.dat (.str MX),.dat (.str v)]]
noncomputable def XF (r:Stm)(st:Nat)(cv:V)(q:List Tok)(X:List O):List O:=
 [.ins 762 1,.ns [(cZ,.ref 2),(c4,.dat .non),(bD,.dat (.boo false)),(aW,.dat (.lst [])),(d9,.mth st 0),(c6,.dat (.boo false)),(a7,cv),(cJ,.ref 6)],
  .ins 166 3,strE r 2 4 7,.ins 73 5,.ns [(dQ,.dat (.str r.text)),(b5,.dat (.int r.place))],.lst (q.map λt=>.dat t.toD),.dls (Bd r.er)]++X
noncomputable abbrev TL (r:Stm)(st:Nat)(ct:CT)(q:List Tok):List O:=XF r st (JY ct) q (UV ct)
noncomputable def CT.Small:CT→Prop
 |.at_ v=>v.length≤1000
 |_=>True
structure Res where
 more:Bool
 st:Nat
 ct:CT
 out:List Tok
 rest:Nm
inductive ExR (z:bS) (T:Nm) (E:Nat) (st:Nat) (ct:CT) (r:Stm) (res:Res):Prop
 |mk (r1:Stm) (h:CallOk z.c 8 st [.ref 0] (TL r st ct []) (.dat (.boo res.more)) (TL r1 res.st res.ct res.out)) (a:At' T true E r1 [] res.rest)
noncomputable def Exs (z:bS)(T:Nm)(E:Nat)(st:Nat)(ct:CT)(r:Stm):Option Res→Prop
 |none=>True
 |some res=>ExR z T E st ct r res
section
variable {z:bS}{T:Nm}{E:Nat}{st:Nat}{ct:CT}{r:Stm}
theorem Exs.mk {res:Res}(r1:Stm)(h:CallOk z.c 8 st [.ref 0] (TL r st ct []) (.dat (.boo res.more)) (TL r1 res.st res.ct res.out))(a:At' T true E r1 [] res.rest):Exs z T E st ct r (some res):=ExR.mk r1 h a
theorem iG {b:Bool}{y w:Option Res}(h1:b=true→Exs z T E st ct r y)(h2:b=false→Exs z T E st ct r w):Exs z T E st ct r (bif b then y else w):=match b,h1,h2 with
 |true,h,_=>h rfl
 |false,_,h=>h rfl
end
noncomputable def PN (ct:CT)(l:Nm)(f:Nm→Nat→Nm→Option Res):Option Res:=match l with
 | []=>none
 |c::l=>match ct with
  |.at_ v=>f v c l
  |_=>none
noncomputable def MY (ct:CT)(l:Nm)(f:Bool→D→Nat→Nm→Option Res):Option Res:=match l with
 | []=>none
 |c::l=>match ct with
  |.dead p s=>f p s c l
  |_=>none
noncomputable def YX (ct:CT)(l:Nm)(f:Nat→Nm→Option Res):Option Res:=match l with
 | []=>none
 |c::l=>match ct with
  |.tg=>f c l
  |_=>none
section
variable {z:bS}{T:Nm}{E:Nat}{st:Nat}{ct:CT}{r:Stm}{ms l:Nm}
noncomputable abbrev Bh (z:bS)(T:Nm)(E:Nat)(r:Stm)(ms:Nm)(c:Nat)(l:Nm)(P:Prop):Prop:=At' T true E r ms (c::l)→∀ r1,aT z r (.dat (.str [c])) r1→At' T true E r1 (c::ms) l→P
theorem bh {c:Nat}{P:Prop}(a:At' T true E r ms (c::l))(h:Bh z T E r ms c l P):P:=(bY (z:=z) a).elim λr1 q=>h a r1 q.1 q.2
theorem lI {f:Nm→Nat→Nm→Option Res}(sm:ct.Small)(a:At' T true E r ms l)(h:∀ s c l,s.length≤1000→Bh z T E r ms c l (Exs z T E st (.at_ s) r (f s c l))):Exs z T E st ct r (PN ct l f):=by
 cases l with
 |nil=>exact trivial
 |cons c l=>cases ct with
  |at_ s=>exact bh a (h s c l sm)
  |_=>exact trivial
theorem EU {f:Nat→Nm→Option Res}(a:At' T true E r ms l)(h:∀ c l,Bh z T E r ms c l (Exs z T E st .tg r (f c l))):Exs z T E st ct r (YX ct l f):=by
 cases l with
 |nil=>exact trivial
 |cons c l=>cases ct with
  |tg=>exact bh a (h c l)
  |_=>exact trivial
theorem EW {f:Bool→D→Nat→Nm→Option Res}(a:At' T true E r ms l)(h:∀ p s c l,Bh z T E r ms c l (Exs z T E st (.dead p s) r (f p s c l))):Exs z T E st ct r (MY ct l f):=by
 cases l with
 |nil=>exact trivial
 |cons c l=>cases ct with
  |dead p s=>exact bh a (h p s c l)
  |_=>exact trivial
end
theorem cL {a b:Nat}(h:nb [a] [b]=true):b=a:=(List.cons.inj (b9 h)).1.symm
theorem n7 {x y:Nm}{a b:Nat}(h:x.length≤a)(k:y.length≤b):(x++y).length≤a+b:=by rw[A2];exact Nat.add_le_add h k
theorem eQ {x y:Nm}{a b:Nat}(h:x.length≤a)(h':y.length≤b)(k:Nat.ble (a+b) lim=true):Nat.ble (x.length+y.length) lim=true:=A4 (A5 (Nat.add_le_add h h') (A3 k))
theorem i4 {T:Nm}{E:Nat}{r:Stm}{ms l:Nm}(a:At' T true E r ms l){p:Nat→Bool}:(l.takeWhile p).length≤15000:=A5 (wE p l) a.len
noncomputable abbrev aU (r:Stm)(v:V):Hi:=.cal 133 4 [2,3,4,5,7] v (SL r)
noncomputable abbrev dF (r:Stm):Hi:=.cal 163 1 [2,3,4,5,7] (.dat .non) (SL r)
noncomputable abbrev wF (r:Stm)(s:Nm):Hi:=.cal 156 4 [2,3,4,5,7] (.dat (.str s)) (SL r)
end
section
section
variable {z:bS}{T:Nm}{E:Nat}{r:Stm}{ms l:Nm}{ct:CT}
theorem Zi (z:bS):CallOk z.c 1 42 [.dat (.str [105])] [] (.dat (.str [105])) []:=z.use (hs:=[]) (o:=.fz [] []) (g:=true) rfl trivial (by kernel_rfl)
noncomputable def EX (ct:CT)(l:Nm):Option Res:=match ct with
 |.dead p d=>match p with
  |true=>match l with
   | []=>some ⟨false,304,.dead true d,[],[]⟩
   |c0::l1=>bif nb [c0] [38]then some ⟨true,311,.dead true d,[],l1⟩else bif nb [c0] [60]then none else bif nb [c0] [0]then none else bif bF c0 then some ⟨true,304,.dead true d,[.chr2 ([c0]++(l1.takeWhile (dA bF true)))],l1.dropWhile (dA bF true)⟩else some ⟨true,304,.dead true d,[.chr1 ([c0]++(l1.takeWhile (dA (iZ 38 60 0) false)))],l1.dropWhile (dA (iZ 38 60 0) false)⟩
  |false=>match l with
   | []=>none
   |c0::l1=>bif nb [c0] [60]then some ⟨true,353,.dead false d,[],l1⟩else none
 |_=>none
theorem UW (a:At' T true E r ms l):Exs z T E 304 ct r (EX ct l):=by
 cases ct with
 |dead p d=>
  cases p with
  |true=>
   cases l with
   |nil=>
    obtain⟨r1,h1,a1⟩:=dU (z:=z) a
    exact .mk r1 (z.use (hs:=[aU r1 (.dat .non)]) (o:=.fz [] []) (g:=cg []) aG (an h1 trivial) (by kernel_rfl)) a1.none
   |cons c0 l1=>
    obtain⟨r1,h1,a1⟩:=bY (z:=z) a
    refine iG (λt0=>?_) (λt0=>?_)
    ·obtain rfl:=cL t0
     exact .mk r1 (z.use (hs:=[aU r1 (.dat (.str [38]))]) (o:=.fz [] []) (g:=cg []) aG (an h1 trivial) (by kernel_rfl)) a1.none
    ·refine iG (λt1=>?_) (λt1=>?_)
     ·exact trivial
     ·refine iG (λt2=>?_) (λt2=>?_)
      ·exact trivial
      ·refine iG (λt3=>?_) (λt3=>?_)
       ·obtain⟨r2,h2,a2⟩:=fB (z:=z) (opp:=true) y7 a1 [.dat b0,.dat (.boo true)] (.inr rfl)
        exact .mk r2 (z.use (hs:=[aU r1 (.dat (.str [c0])),.tst 306011022 false,.tst 308013024 false,.tst 310013027 false,.tst 315013036 true,wF r2 (l1.takeWhile (dA bF true))]) (o:=.fz [12] []) (g:=cg [(true,Nat.ble (([c0]:Nm).length+((l1.takeWhile (dA bF true)):Nm).length) lim),(true,bF c0),(false,nb [c0] [0]),(false,nb [c0] [60]),(false,nb [c0] [38])]) (aB (eQ (A7 1) (i4 a1) rfl) (aB t3 (aB t2 (aB t1 (aB t0 aG))))) (an h2 (an h1 trivial)) (by kernel_rfl)) a2.none
       ·obtain⟨r2,h2,a2⟩:=fB (z:=z) (opp:=false) (rP 38 60 0) a1 [.dat (.tup [.str [38],.str [60],.str [0]])] (.inl ⟨rfl,rfl⟩)
        exact .mk r2 (z.use (hs:=[aU r1 (.dat (.str [c0])),.tst 306011022 false,.tst 308013024 false,.tst 310013027 false,.tst 315013036 false,wF r2 (l1.takeWhile (dA (iZ 38 60 0) false))]) (o:=.fz [12] []) (g:=cg [(true,Nat.ble (([c0]:Nm).length+((l1.takeWhile (dA (iZ 38 60 0) false)):Nm).length) lim),(false,bF c0),(false,nb [c0] [0]),(false,nb [c0] [60]),(false,nb [c0] [38])]) (aB (eQ (A7 1) (i4 a1) rfl) (aB t3 (aB t2 (aB t1 (aB t0 aG))))) (an h2 (an h1 trivial)) (by kernel_rfl)) a2.none
  |false=>
   cases l with
   |nil=>exact trivial
   |cons c0 l1=>
    obtain⟨r1,h1,a1⟩:=bY (z:=z) a
    refine iG (λt0=>?_) (λ_=>trivial)
    obtain rfl:=cL t0
    exact .mk r1 (z.use (hs:=[aU r1 (.dat (.str [60]))]) (o:=.fz [] []) (g:=cg []) aG (an h1 trivial) (by kernel_rfl)) a1.none
 |_=>exact trivial
noncomputable def EY (ct:CT)(l:Nm):Option Res:=match ct with
 |.dead p d=>match p with
  |true=>match l with
   | []=>some ⟨false,318,.dead true d,[],[]⟩
   |c0::l1=>bif nb [c0] [38]then some ⟨true,325,.dead true d,[],l1⟩else bif nb [c0] [60]then some ⟨true,374,.dead true d,[],l1⟩else bif nb [c0] [0]then none else bif bF c0 then some ⟨true,318,.dead true d,[.chr2 ([c0]++(l1.takeWhile (dA bF true)))],l1.dropWhile (dA bF true)⟩else some ⟨true,318,.dead true d,[.chr1 ([c0]++(l1.takeWhile (dA (iZ 38 60 0) false)))],l1.dropWhile (dA (iZ 38 60 0) false)⟩
  |false=>none
 |_=>none
theorem UX (a:At' T true E r ms l):Exs z T E 318 ct r (EY ct l):=by
 cases ct with
 |dead p d=>
  cases p with
  |true=>
   cases l with
   |nil=>
    obtain⟨r1,h1,a1⟩:=dU (z:=z) a
    exact .mk r1 (z.use (hs:=[aU r1 (.dat .non)]) (o:=.fz [] []) (g:=cg []) aG (an h1 trivial) (by kernel_rfl)) a1.none
   |cons c0 l1=>
    obtain⟨r1,h1,a1⟩:=bY (z:=z) a
    refine iG (λt0=>?_) (λt0=>?_)
    ·obtain rfl:=cL t0
     exact .mk r1 (z.use (hs:=[aU r1 (.dat (.str [38]))]) (o:=.fz [] []) (g:=cg []) aG (an h1 trivial) (by kernel_rfl)) a1.none
    ·refine iG (λt1=>?_) (λt1=>?_)
     ·obtain rfl:=cL t1
      exact .mk r1 (z.use (hs:=[aU r1 (.dat (.str [60]))]) (o:=.fz [] []) (g:=cg []) aG (an h1 trivial) (by kernel_rfl)) a1.none
     ·refine iG (λt2=>?_) (λt2=>?_)
      ·exact trivial
      ·refine iG (λt3=>?_) (λt3=>?_)
       ·obtain⟨r2,h2,a2⟩:=fB (z:=z) (opp:=true) y7 a1 [.dat b0,.dat (.boo true)] (.inr rfl)
        exact .mk r2 (z.use (hs:=[aU r1 (.dat (.str [c0])),.tst 329011022 false,.tst 331013024 false,.tst 335013027 false,.tst 338013036 true,wF r2 (l1.takeWhile (dA bF true))]) (o:=.fz [12] []) (g:=cg [(true,Nat.ble (([c0]:Nm).length+((l1.takeWhile (dA bF true)):Nm).length) lim),(true,bF c0),(false,nb [c0] [0]),(false,nb [c0] [60]),(false,nb [c0] [38])]) (aB (eQ (A7 1) (i4 a1) rfl) (aB t3 (aB t2 (aB t1 (aB t0 aG))))) (an h2 (an h1 trivial)) (by kernel_rfl)) a2.none
       ·obtain⟨r2,h2,a2⟩:=fB (z:=z) (opp:=false) (rP 38 60 0) a1 [.dat (.tup [.str [38],.str [60],.str [0]])] (.inl ⟨rfl,rfl⟩)
        exact .mk r2 (z.use (hs:=[aU r1 (.dat (.str [c0])),.tst 329011022 false,.tst 331013024 false,.tst 335013027 false,.tst 338013036 false,wF r2 (l1.takeWhile (dA (iZ 38 60 0) false))]) (o:=.fz [12] []) (g:=cg [(true,Nat.ble (([c0]:Nm).length+((l1.takeWhile (dA (iZ 38 60 0) false)):Nm).length) lim),(false,bF c0),(false,nb [c0] [0]),(false,nb [c0] [60]),(false,nb [c0] [38])]) (aB (eQ (A7 1) (i4 a1) rfl) (aB t3 (aB t2 (aB t1 (aB t0 aG))))) (an h2 (an h1 trivial)) (by kernel_rfl)) a2.none
  |false=>exact trivial
 |_=>exact trivial
noncomputable def EZ (ct:CT)(l:Nm):Option Res:=match ct with
 |.dead p d=>match p with
  |true=>match l with
   | []=>some ⟨true,318,.dead true d,[.chr1 [60]],[]⟩
   |c0::l1=>bif nb [c0] [47]then none else some ⟨true,318,.dead true d,[.chr1 [60]],c0::l1⟩
  |false=>none
 |_=>none
theorem UY (a:At' T true E r ms l):Exs z T E 374 ct r (EZ ct l):=by
 cases ct with
 |dead p d=>cases p with
  |true=>
   cases l with
   |nil=>
    obtain⟨r1,h1,a1⟩:=dU (z:=z) a
    exact .mk r1 (z.use (hs:=[aU r1 (.dat .non),dF r1]) (o:=.fz [12] []) (g:=cg []) (ob:=cD z r1 (.dat .non) r1∧aT z r (.dat .non) r1∧True) aG ⟨dE,h1,trivial⟩ (by kernel_rfl)) a1.none
   |cons c0 l1=>
    obtain⟨r1,h1,a1⟩:=bY (z:=z) a
    refine iG (λt0=>trivial) (λt0=>?_)
    obtain⟨r2,h2,a2⟩:=fA (z:=z) a1 a.len (.inr ⟨rfl,rfl⟩)
    exact .mk r2 (z.use (hs:=[aU r1 (.dat (.str [c0])),.tst 421011022 false,dF r2]) (o:=.fz [12] []) (g:=cg [(false,nb [c0] [47])]) (aB t0 aG) (an h2 (an h1 trivial)) (by kernel_rfl)) a2.none
  |false=>exact trivial
 |_=>exact trivial
noncomputable def Ea (ct:CT)(l:Nm):Option Res:=MY ct l λp _ c0 l1=>match p with
 |true=>none
 |false=>bif nb [c0] [105]then some ⟨true,367,.tg,[],l1⟩else none
theorem UZ (a:At' T true E r ms l):Exs z T E 353 ct r (Ea ct l):=EW a λp d c0 l1 a r1 h1 a1=>by
 cases p with
 |true=>exact trivial
 |false=>
  refine iG (λt0=>?_) (λ_=>trivial)
  obtain rfl:=cL t0
  exact .mk r1 (z.use (hs:=[aU r1 (.dat (.str [105]))]) (o:=.fz [] [9,10]) (g:=cg []) aG (an h1 trivial) (by kernel_rfl)) a1.none
noncomputable def Eb (ct:CT)(l:Nm):Option Res:=YX ct l λc0 l1=>bif nb [c0] [32]then some ⟨true,535,.tg,[],l1⟩else none
theorem Ua (a:At' T true E r ms l):Exs z T E 367 ct r (Eb ct l):=EU a λc0 l1 a r1 h1 a1=>by
 refine iG (λt0=>?_) (λ_=>trivial)
 obtain rfl:=cL t0
 exact .mk r1 (z.use (hs:=[aU r1 (.dat (.str [32]))]) (o:=.fz [] []) (g:=cg []) aG (an h1 trivial) (by kernel_rfl)) a1.none
noncomputable def Ec (ct:CT)(l:Nm):Option Res:=YX ct l λc0 l1=>bif nb [c0] [116]then some ⟨true,542,.at_ [],[],l1⟩else none
theorem Ub (a:At' T true E r ms l):Exs z T E 535 ct r (Ec ct l):=EU a λc0 l1 a r1 h1 a1=>by
 refine iG (λt0=>?_) (λ_=>trivial)
 obtain rfl:=cL t0
 exact .mk r1 (z.use (hs:=[aU r1 (.dat (.str [116]))]) (o:=.fz [] [11]) (g:=cg []) aG (an h1 trivial) (by kernel_rfl)) a1.none
noncomputable def Ed (ct:CT)(l:Nm):Option Res:=PN ct l λv c0 l1=>bif nb [c0] [61]then some ⟨true,556,.at_ v,[],l1⟩else none
theorem Uc (sm:ct.Small)(a:At' T true E r ms l):Exs z T E 542 ct r (Ed ct l):=lI sm a λv c0 l1 hv a r1 h1 a1=>by
 refine iG (λt0=>?_) (λ_=>trivial)
 obtain rfl:=cL t0
 exact .mk r1 (z.use (hs:=[aU r1 (.dat (.str [61]))]) (o:=.fz [] []) (g:=cg []) aG (an h1 trivial) (by kernel_rfl)) a1.none
noncomputable def Ee (ct:CT)(l:Nm):Option Res:=PN ct l λv c0 l1=>bif bF c0 then none else bif nb [c0] [34]then some ⟨true,563,.at_ v,[],l1⟩else bif nb [c0] [38]then some ⟨true,577,.at_ v,[],38::l1⟩else bif nb [c0] [39]then some ⟨true,570,.at_ v,[],l1⟩else bif nb [c0] [62]then none else bif nb [c0] [0]then none else bif iZ 61 60 96 c0 then none else some ⟨true,577,.at_ (v++[c0]),[],l1⟩
theorem Ue (sm:ct.Small)(a:At' T true E r ms l):Exs z T E 556 ct r (Ee ct l):=lI sm a λv c0 l1 hv a r1 h1 a1=>by
 refine iG (λt0=>?_) (λt0=>?_)
 ·exact trivial
 ·refine iG (λt1=>?_) (λt1=>?_)
  ·obtain rfl:=cL t1
   exact .mk r1 (z.use (hs:=[aU r1 (.dat (.str [34]))]) (o:=.fz [] []) (g:=cg []) aG (an h1 trivial) (by kernel_rfl)) a1.none
  ·refine iG (λt2=>?_) (λt2=>?_)
   ·obtain rfl:=cL t2
    obtain⟨r2,h2,a2⟩:=fA (z:=z) a1 a.len (.inr ⟨rfl,rfl⟩)
    exact .mk r2 (z.use (hs:=[aU r1 (.dat (.str [38])),dF r2]) (o:=.fz [] []) (g:=cg []) aG (an h2 (an h1 trivial)) (by kernel_rfl)) a2.none
   ·refine iG (λt3=>?_) (λt3=>?_)
    ·obtain rfl:=cL t3
     exact .mk r1 (z.use (hs:=[aU r1 (.dat (.str [39]))]) (o:=.fz [] []) (g:=cg []) aG (an h1 trivial) (by kernel_rfl)) a1.none
    ·refine iG (λt4=>?_) (λt4=>?_)
     ·exact trivial
     ·refine iG (λt5=>?_) (λt5=>?_)
      ·exact trivial
      ·refine iG (λt6=>?_) (λt6=>?_)
       ·exact trivial
       ·exact .mk r1 (z.use (hs:=[aU r1 (.dat (.str [c0])),.tst 619011034 false,.tst 621013024 false,.tst 623013024 false,.tst 626013024 false,.tst 628013024 false,.tst 631013027 false,.tst 635013036 false]) (o:=.fz [] []) (g:=cg [(true,Nat.ble ((v:Nm).length+([c0]:Nm).length) lim),(false,iZ 61 60 96 c0),(false,nb [c0] [0]),(false,nb [c0] [62]),(false,nb [c0] [39]),(false,nb [c0] [38]),(false,nb [c0] [34]),(false,bF c0)]) (aB (eQ hv (A7 1) rfl) (aB t6 (aB t5 (aB t4 (aB t3 (aB t2 (aB t1 (aB t0 aG)))))))) (an h1 trivial) (by kernel_rfl)) a1.none
noncomputable def wG (ct:CT)(l:Nm):Option Res:=PN ct l λv c0 l1=>bif nb [c0] [34]then some ⟨true,584,.at_ v,[],l1⟩else bif nb [c0] [38]then none else bif nb [c0] [0]then none else some ⟨true,563,.at_ (v++([c0]++(l1.takeWhile (dA (iZ 34 38 0) false)))),[],l1.dropWhile (dA (iZ 34 38 0) false)⟩
theorem Uf (sm:ct.Small)(a:At' T true E r ms l):Exs z T E 563 ct r (wG ct l):=lI sm a λv c0 l1 hv a r1 h1 a1=>by
 refine iG (λt0=>?_) (λt0=>?_)
 ·obtain rfl:=cL t0
  exact .mk r1 (z.use (hs:=[aU r1 (.dat (.str [34]))]) (o:=.fz [] []) (g:=cg []) aG (an h1 trivial) (by kernel_rfl)) a1.none
 ·refine iG (λt1=>?_) (λt1=>?_)
  ·exact trivial
  ·refine iG (λt2=>?_) (λt2=>?_)
   ·exact trivial
   ·obtain⟨r2,h2,a2⟩:=fB (z:=z) (opp:=false) (rP 34 38 0) a1 [.dat (.tup [.str [34],.str [38],.str [0]])] (.inl ⟨rfl,rfl⟩)
    exact .mk r2 (z.use (hs:=[aU r1 (.dat (.str [c0])),.tst 649011022 false,.tst 651013024 false,.tst 653013027 false,wF r2 (l1.takeWhile (dA (iZ 34 38 0) false))]) (o:=.fz [] []) (g:=cg [(true,Nat.ble ((v:Nm).length+([c0]++(l1.takeWhile (dA (iZ 34 38 0) false)):Nm).length) lim),(true,Nat.ble (([c0]:Nm).length+((l1.takeWhile (dA (iZ 34 38 0) false)):Nm).length) lim),(false,nb [c0] [0]),(false,nb [c0] [38]),(false,nb [c0] [34])]) (aB (eQ hv (n7 (A7 1) (i4 a1)) rfl) (aB (eQ (A7 1) (i4 a1) rfl) (aB t2 (aB t1 (aB t0 aG))))) (an h2 (an h1 trivial)) (by kernel_rfl)) a2.none
noncomputable def wH (ct:CT)(l:Nm):Option Res:=PN ct l λv c0 l1=>bif nb [c0] [39]then some ⟨true,584,.at_ v,[],l1⟩else bif nb [c0] [38]then none else bif nb [c0] [0]then none else some ⟨true,570,.at_ (v++([c0]++(l1.takeWhile (dA (iZ 39 38 0) false)))),[],l1.dropWhile (dA (iZ 39 38 0) false)⟩
theorem Ug (sm:ct.Small)(a:At' T true E r ms l):Exs z T E 570 ct r (wH ct l):=lI sm a λv c0 l1 hv a r1 h1 a1=>by
 refine iG (λt0=>?_) (λt0=>?_)
 ·obtain rfl:=cL t0
  exact .mk r1 (z.use (hs:=[aU r1 (.dat (.str [39]))]) (o:=.fz [] []) (g:=cg []) aG (an h1 trivial) (by kernel_rfl)) a1.none
 ·refine iG (λt1=>?_) (λt1=>?_)
  ·exact trivial
  ·refine iG (λt2=>?_) (λt2=>?_)
   ·exact trivial
   ·obtain⟨r2,h2,a2⟩:=fB (z:=z) (opp:=false) (rP 39 38 0) a1 [.dat (.tup [.str [39],.str [38],.str [0]])] (.inl ⟨rfl,rfl⟩)
    exact .mk r2 (z.use (hs:=[aU r1 (.dat (.str [c0])),.tst 665011022 false,.tst 667013024 false,.tst 669013027 false,wF r2 (l1.takeWhile (dA (iZ 39 38 0) false))]) (o:=.fz [] []) (g:=cg [(true,Nat.ble ((v:Nm).length+([c0]++(l1.takeWhile (dA (iZ 39 38 0) false)):Nm).length) lim),(true,Nat.ble (([c0]:Nm).length+((l1.takeWhile (dA (iZ 39 38 0) false)):Nm).length) lim),(false,nb [c0] [0]),(false,nb [c0] [38]),(false,nb [c0] [39])]) (aB (eQ hv (n7 (A7 1) (i4 a1)) rfl) (aB (eQ (A7 1) (i4 a1) rfl) (aB t2 (aB t1 (aB t0 aG))))) (an h2 (an h1 trivial)) (by kernel_rfl)) a2.none
noncomputable def JZ (c:Nat):Bool:=bU (.str [c]) [.str [38],.str [62],.str [34],.str [39],.str [61],.str [60],.str [96],.str [0],.str [9],.str [10],.str [12],.str [32],.str [13]]
theorem PO:tP (.tup [.str [38],.str [62],.str [34],.str [39],.str [61],.str [60],.str [96],.str [0],.str [9],.str [10],.str [12],.str [32],.str [13]]) JZ:=λz n c hp=>((AW z.c n hp .isin (.dat (.str [c])) (.dat (.tup [.str [38],.str [62],.str [34],.str [39],.str [61],.str [60],.str [96],.str [0],.str [9],.str [10],.str [12],.str [32],.str [13]]))).get rfl).ok rfl
noncomputable def wI (ct:CT)(l:Nm):Option Res:=PN ct l λv c0 l1=>bif bF c0 then none else bif nb [c0] [38]then none else bif nb [c0] [62]then some ⟨true,304,.dead true (Tok.stag v).toD,[.stag v],l1⟩else bif UT 34 39 61 60 96 c0 then none else bif nb [c0] [0]then none else some ⟨true,577,.at_ (v++([c0]++(l1.takeWhile (dA JZ false)))),[],l1.dropWhile (dA JZ false)⟩
theorem Uh (sm:ct.Small)(a:At' T true E r ms l):Exs z T E 577 ct r (wI ct l):=lI sm a λv c0 l1 hv a r1 h1 a1=>by
 refine iG (λt0=>?_) (λt0=>?_)
 ·exact trivial
 ·refine iG (λt1=>?_) (λt1=>?_)
  ·exact trivial
  ·refine iG (λt2=>?_) (λt2=>?_)
   ·obtain rfl:=cL t2
    exact .mk r1 (z.use (hs:=[aU r1 (.dat (.str [62])),.cal 42 1 [] (.dat (.str [105])) []]) (o:=.fz [10,9,13,8] []) (g:=cg []) (ob:=CallOk z.c 1 42 [.dat (.str [105])] [] (.dat (.str [105])) []∧aT z r (.dat (.str [62])) r1∧True) aG ⟨Zi z,h1,trivial⟩ (by kernel_rfl)) a1.none
   ·refine iG (λt3=>?_) (λt3=>?_)
    ·exact trivial
    ·refine iG (λt4=>?_) (λt4=>?_)
     ·exact trivial
     ·obtain⟨r2,h2,a2⟩:=fB (z:=z) (opp:=false) PO a1 [.dat (.tup [.str [38],.str [62],.str [34],.str [39],.str [61],.str [60],.str [96],.str [0],.str [9],.str [10],.str [12],.str [32],.str [13]])] (.inl ⟨rfl,rfl⟩)
      exact .mk r2 (z.use (hs:=[aU r1 (.dat (.str [c0])),.tst 681011034 false,.tst 683013024 false,.tst 685013024 false,.tst 687013046 false,.tst 690013027 false,wF r2 (l1.takeWhile (dA JZ false))]) (o:=.fz [] []) (g:=cg [(true,Nat.ble ((v:Nm).length+([c0]++(l1.takeWhile (dA JZ false)):Nm).length) lim),(true,Nat.ble (([c0]:Nm).length+((l1.takeWhile (dA JZ false)):Nm).length) lim),(false,nb [c0] [0]),(false,UT 34 39 61 60 96 c0),(false,nb [c0] [62]),(false,nb [c0] [38]),(false,bF c0)]) (aB (eQ hv (n7 (A7 1) (i4 a1)) rfl) (aB (eQ (A7 1) (i4 a1) rfl) (aB t4 (aB t3 (aB t2 (aB t1 (aB t0 aG))))))) (an h2 (an h1 trivial)) (by kernel_rfl)) a2.none
noncomputable def Ef (ct:CT)(l:Nm):Option Res:=PN ct l λv c0 l1=>bif nb [c0] [62]then some ⟨true,304,.dead true (Tok.stag v).toD,[.stag v],l1⟩else none
theorem Ui (sm:ct.Small)(a:At' T true E r ms l):Exs z T E 584 ct r (Ef ct l):=lI sm a λv c0 l1 hv a r1 h1 a1=>by
 refine iG (λt0=>?_) (λ_=>trivial)
 obtain rfl:=cL t0
 exact .mk r1 (z.use (hs:=[aU r1 (.dat (.str [62])),.cal 42 1 [] (.dat (.str [105])) []]) (o:=.fz [10,9,13,8] []) (g:=cg []) (ob:=CallOk z.c 1 42 [.dat (.str [105])] [] (.dat (.str [105])) []∧aT z r (.dat (.str [62])) r1∧True) aG ⟨Zi z,h1,trivial⟩ (by kernel_rfl)) a1.none
end
end
section
noncomputable def Eg:Nm:=[114,111,119,115]
noncomputable def Uj:Nm:=[107,101,121]
noncomputable def Uk:Nm:=[108,111,119]
noncomputable def PP:Nm:=[104,105,103,104]
noncomputable def n8:Nm:=[109,105,100,100,108,101]
theorem wJ:∀ {a b x:Nm},kK a b=false→kK a x=true→kK b x=true
 | [],[],_,_,h=>h
 |_::_,[],[],_,h=>h
 |_::_,[],_::_,_,_=>rfl
 | [],_::_,_,h,_=>(Bool.noConfusion h:False).elim
 |_::_,_::_,[],_,h=>(Bool.noConfusion h:False).elim
 |d::a,e::b,c::x,h,k=>by
  have h:(Nat.blt d e||(Nat.beq d e&&kK a b))=false:=h
  have k:(Nat.blt d c||(Nat.beq d c&&kK a x))=true:=k
  show(Nat.blt e c||(Nat.beq e c&&kK b x))=true
  have h:=Bool.or_eq_false_iff.mp h
  have le:e≤d:=Nat.le_of_not_lt λq=>by have:=A4 q;exact A8 (h.1.symm.trans this)
  rcases A1 k with q|q
  ·exact Bool.or_eq_true_iff.mpr (.inl (A4 (Nat.lt_of_le_of_lt le (A3 q))))
  ·have q:=A0 q
   have dc:=B0 q.1
   by_cases ed:e=d
   ·subst ed
    refine Bool.or_eq_true_iff.mpr (.inr (Bool.and_eq_true_iff.mpr ⟨q.1,wJ ?_ q.2⟩))
    have:=h.2
    rw[Nat.beq_refl]at this
    exact this
   ·exact Bool.or_eq_true_iff.mpr (.inl (A4 (by lia)))
theorem rQ {a b:Nat}{x p:Nm}(h:pA (a::x) (b::p)=true):a=b∧pA x p=true:=by
 have h:(match Nat.beq a b with|true=>pA x p|false=>false)=true:=h
 cases e:Nat.beq a b with
 |false=>rw[e]at h;cases h
 |true=>rw[e]at h;exact⟨B0 e,h⟩
theorem Eh {a:Nat}{x p:Nm}(h:pA x p=true):pA (a::x) (a::p)=true:=by
 show(match Nat.beq a a with|true=>pA x p|false=>false)=true
 rw[Nat.beq_refl]
 exact h
theorem Ei:∀ {x k k':Nm},kK k x=false→kK k' k=false→pA x k'=true→pA x k=true
 | [],_,_,_,_,_=>rfl
 |_::_,_,[],_,_,h=>(Bool.noConfusion h:False).elim
 |_::_,[],_::_,h,_,_=>(Bool.noConfusion h:False).elim
 |a::x,b::p,c::q,h1,h2,h3=>by
  have h1:=Bool.or_eq_false_iff.mp (h1:(Nat.blt b a||(Nat.beq b a&&kK p x))=false)
  have h2:=Bool.or_eq_false_iff.mp (h2:(Nat.blt c b||(Nat.beq c b&&kK q p))=false)
  obtain⟨rfl,h4⟩:=rQ h3
  have l1:a≤b:=Nat.le_of_not_lt λq=>A8 (h1.1.symm.trans (A4 q))
  have l2:b≤a:=Nat.le_of_not_lt λq=>A8 (h2.1.symm.trans (A4 q))
  obtain rfl:=Nat.le_antisymm l1 l2
  have r1:=h1.2
  have r2:=h2.2
  rw[Nat.beq_refl]at r1 r2
  exact Eh (Ei r1 r2 h4)
theorem MZ:∀ {x k:Nm},pA x k=true→kK k x=false
 | [],[],_=>rfl
 | [],_::_,_=>rfl
 |_::_,[],h=>(Bool.noConfusion h:False).elim
 |a::x,b::k,h=>by
  obtain⟨rfl,h4⟩:=rQ h
  exact Bool.or_eq_false_iff.mpr ⟨Bool.eq_false_iff.mpr λq=>Nat.lt_irrefl _ (A3 q),by rw[MZ h4,Bool.and_false]⟩
noncomputable def PQ:D→Nm
 |.str x=>x
 |_=>[]
noncomputable def kN:List Nm:=match fS with
 |.lst ds=>ds.map PQ
 |_=>[]
noncomputable def aS:List Nm:=match aR with
 |.dct es=>es.map (·.1)
 |_=>[]
noncomputable abbrev nK:Nat:=43
theorem wK:kN.length=nK:=by decide+kernel
theorem PS:((List.range nK).all λi=>(List.range nK).all λj=> !(Nat.ble i j&&kK (kN.getD j []) (kN.getD i [])))=true:=by kernel_rfl
theorem Ej {i j:Nat}(h:i≤j)(hj:j<nK):kK (kN.getD j []) (kN.getD i [])=false:=by
 have q:=List.all_eq_true.mp (List.all_eq_true.mp PS i (List.mem_range.mpr (Nat.lt_of_le_of_lt h hj))) j (List.mem_range.mpr hj)
 rw[A4 h,Bool.true_and]at q
 exact(Bool.not_eq_true' _).mp q
theorem PT:(kN.all λk=>aO k aS)=true:=by kernel_rfl
theorem Ek:(aS.all λk=>aO k kN)=true:=by kernel_rfl
noncomputable def eB (x:Nm):Bool:=kN.any λk=>pA x k
structure Bis (x:Nm) (i:Nat):Prop where
 le:i≤nK
 lo:∀ j,j<i→kK (kN.getD j []) x=true
 hi:∀ j,i≤j→j<nK→kK (kN.getD j []) x=false
theorem El {x:Nm}{i:Nat}(b:Bis x i):eB x=(Nat.blt i nK&&pA x (kN.getD i [])):=by
 cases e:(Nat.blt i nK&&pA x (kN.getD i []))with
 |true=>
  have e:=A0 e
  have lt:i<kN.length:=by rw[wK];exact A3 e.1
  refine List.any_eq_true.mpr ⟨kN.getD i [],?_,e.2⟩
  rw[List.getD_eq_getElem?_getD,List.getElem?_eq_getElem lt]
  exact List.getElem_mem lt
 |false=>
  refine Bool.eq_false_iff.mpr λh=>?_
  obtain⟨k,m,q⟩:=List.any_eq_true.mp h
  obtain⟨j,lt,rfl⟩:=List.getElem_of_mem m
  have e1:kN.getD j []=kN[j]:=by rw[List.getD_eq_getElem?_getD,List.getElem?_eq_getElem lt];rfl
  rw[← e1]at q
  rw[wK]at lt
  have ij:i≤j:=Nat.le_of_not_lt λl=>A8 ((MZ q).symm.trans (b.lo j l))
  have w:=Ei (b.hi i (A7 i) (Nat.lt_of_le_of_lt ij lt)) (Ej ij lt) q
  rw[w,Bool.and_true]at e
  exact A8 (e.symm.trans (A4 (Nat.lt_of_le_of_lt ij lt)))
noncomputable def Em:Fn:=iM iO [17] [.dat (.int 0),.dat .non]
noncomputable def bW:WhlI:=Au (bV Em.body 1)
noncomputable abbrev kV:List V:=kN.map λk=>.dat (.str k)
noncomputable def BL (x:Nm)(lo hi:Nat)(eo:List (Nm×V)):List O:=[.fr ([(Eg,.dat fS),(Uj,.dat (.str x)),(Uk,.dat (.int lo)),(PP,.dat (.int hi))]++eo)]
section
variable {z:bS}{x:Nm}
noncomputable abbrev BF:Fx:=⟨0,[],true⟩
noncomputable abbrev mE (m:Nat):List (Nm×V):=[(n8,.dat (.int m))]
theorem wL {lo hi:Nat}{eo:List (Nm×V)}{b:Bool}(h:aX lo hi=b):RB z.c Em.names 0 BF (BL x lo hi eo) bW.t b (BL x lo hi eo):=z.useT (hs:=[.tst 137010020 b]) (g:=cg [(b,aX lo hi)]) (aB h aG) trivial (by kernel_rfl)
theorem Ja (hp:List O):items (.dat fS) hp=some kV:=by kernel_rfl
theorem YY {m:Nat}(h:m<nK):sQ kV (m:Int)=some (.dat (.str (kN.getD m []))):=by
 have lt:m<kN.length:=by rw[wK];exact h
 show(match Nat.blt m kV.length with|true=>some m|false=>none).bind (λj=>kV[j]?)=_
 rw[show Nat.blt m kV.length=true from A4 (by rw[List.length_map];exact lt)]
 show kV[m]? =_
 rw[List.getElem?_map,List.getElem?_eq_getElem lt,List.getD_eq_getElem?_getD,List.getElem?_eq_getElem lt]
 rfl
theorem Ma {n m:Nat}(h:m<nK){hp:List O}:a9 z.c n hp getItem z.c.VT (.dat fS) (.dat (.int m)) (.dat (.str (kN.getD m []))) hp:=eF (Ja hp) (YY h) (by
 show eR (m:Int)=true
 exact A4 (A5 (Nat.le_of_lt h) (by decide)))
theorem tR (a b:Nat):Int.fdiv (a:Int) (b:Int)=((a/b:Nat):Int):=Int.fdiv_eq_ediv_of_nonneg _ (Int.natCast_nonneg b)
theorem En {lo hi:Nat}{eo:List (Nm×V)}(eq:eo=[]∨∃ v,eo=[(n8,v)]){b:Bool}(h:(lo+hi)/2<nK)(hb:kK (kN.getD ((lo+hi)/2) []) x=b):
  RX z.c Em.names 0 BF (BL x lo hi eo) bW.b .next (BL x (bif b then(lo+hi)/2+1 else lo) (bif b then hi else(lo+hi)/2) (mE ((lo+hi)/2))):=by
 generalize e:(lo+hi)/2=m at *
 have e':V.dat (.int (Int.fdiv ((lo:Int)+hi) 2))=V.dat (.int m):=e▸congrArg (λi=>V.dat (.int i)) (tR (lo+hi) 2)
 have i:a9 z.c 0 (BL x lo hi (mE m)) getItem z.c.VT (.dat fS) (.dat (.int m)) (.dat (.str (kN.getD m []))) (BL x lo hi (mE m)):=Ma h
 cases b with
 |true=>
  rcases eq with rfl|⟨v,rfl⟩
  ·exact z.useX (hs:=[.val 138017034 (.dat (.int m)),.itm 139011023 (.dat (.str (kN.getD m []))),.tst 139011029 true]) (g:=cg [(true,kK (kN.getD m []) x)]) (aB hb aG) (an i (an e' trivial)) (by kernel_rfl)
  ·exact z.useX (hs:=[.val 138017034 (.dat (.int m)),.itm 139011023 (.dat (.str (kN.getD m []))),.tst 139011029 true]) (g:=cg [(true,kK (kN.getD m []) x)]) (aB hb aG) (an i (an e' trivial)) (by kernel_rfl)
 |false=>
  rcases eq with rfl|⟨v,rfl⟩
  ·exact z.useX (hs:=[.val 138017034 (.dat (.int m)),.itm 139011023 (.dat (.str (kN.getD m []))),.tst 139011029 false]) (g:=cg [(false,kK (kN.getD m []) x)]) (aB hb aG) (an i (an e' trivial)) (by kernel_rfl)
  ·exact z.useX (hs:=[.val 138017034 (.dat (.int m)),.itm 139011023 (.dat (.str (kN.getD m []))),.tst 139011029 false]) (g:=cg [(false,kK (kN.getD m []) x)]) (aB hb aG) (an i (an e' trivial)) (by kernel_rfl)
theorem PU:∀ (k lo hi:Nat) (eo:List (Nm×V)),hi≤lo+k→hi≤nK→lo≤hi→(eo=[]∨∃ v,eo=[(n8,v)])→(∀ j,j<lo→kK (kN.getD j []) x=true)→(∀ j,hi≤j→j<nK→kK (kN.getD j []) x=false)→
  ∃ i eo',Bis x i∧mB z.c Em.names 0 BF bW.t bW.b 1 (k+1) (BL x lo hi eo) .next (BL x i i eo'):=by
 intro k
 induction k with
 |zero=>
  intro lo hi eo h1 h2 h3 he l1 l2
  obtain rfl:lo=hi:=by lia
  exact⟨lo,eo,⟨h2,l1,l2⟩,.stop (wL (mH (A7 _)))⟩
 |succ k ih=>
  intro lo hi eo h1 h2 h3 he l1 l2
  by_cases q:lo<hi
  ·have t:=wL (z:=z) (x:=x) (eo:=eo) (gB q)
   have hm:(lo+hi)/2<nK:=by lia
   cases hb:kK (kN.getD ((lo+hi)/2) []) x with
   |true=>
    obtain⟨i,eo',b,r⟩:=ih ((lo+hi)/2+1) hi (mE ((lo+hi)/2)) (by lia) h2 (by lia) (.inr ⟨_,rfl⟩) (λj hj=>wJ (Ej (Nat.le_of_lt_succ hj) hm) hb) l2
    exact⟨i,eo',b,.turn t (En he hm hb) rfl .id r⟩
   |false=>
    obtain⟨i,eo',b,r⟩:=ih lo ((lo+hi)/2) (mE ((lo+hi)/2)) (by lia) (by lia) (by lia) (.inr ⟨_,rfl⟩) l1 (λj hj hk=>Bool.eq_false_iff.mpr λy=>A8 (hb.symm.trans (wJ (Ej hj hk) y)))
    exact⟨i,eo',b,.turn t (En he hm hb) rfl .id r⟩
  ·obtain rfl:lo=hi:=by lia
   exact⟨lo,eo,⟨h2,l1,l2⟩,.stop (wL (mH (A7 _)))⟩
theorem Ul (x:Nm):∃ i,Bis x i∧CallOk z.c 1 178 [.dat fS,.dat (.str x),.dat (.int 0),.dat (.int nK)] [] (.dat (.int i)) []:=by
 obtain⟨i,eo,b,r⟩:=PU (z:=z) (x:=x) nK 0 nK [] (by lia) (A7 _) (Nat.zero_le _) (.inl rfl) nofun λj h1 h2=>absurd h2 (Nat.not_lt_of_le h1)
 exact⟨i,b,z.use (hs:=[.stm 137 .next (BL x i i eo)]) (o:=.fz [] []) (g:=true) (ob:=RS z.c Em.names 0 BF (BL x 0 nK []) bW.s .next (BL x i i eo)∧True) rfl ⟨i9 r,trivial⟩ (by kernel_rfl)⟩
end
end
section
noncomputable def Jb:Nm:=aA1
noncomputable def Jc:Nm:=aAz
noncomputable def tS:Nm:=aAo
noncomputable def n9:Nm:=aAk
noncomputable def oA:Nm:=[112,114,101,102,105,120]
noncomputable def Um:Nm:=[108,111]
noncomputable def Un:Nm:=[104,105]
theorem tT (f:Nat→O→O)(h:∀ l o,f l o=o):∀ (n:Nat) (hp:List O),AP f n hp=hp
 |_,[]=>rfl
 |n,x::r=>by
  show f n x::AP f (n+1) r=_
  rw[h,tT f h]
theorem BE (hp:List O):fY [] hp []=hp:=by
 exact(congrArg (· ++_) (tT (NH [] hp.length []) (λ_ _=>rfl) 0 hp)).trans (B1 _)
theorem y8:∀ x:Nm,pA x x=true
 | []=>rfl
 |_::x=>Eh (y8 x)
theorem eZ {x:Nm}{l:List Nm}(h:aO x l=true):x∈l:=by
 induction l with
 |nil=>cases h
 |cons y l ih=>
  rcases A1 (h:(nb y x||aO x l)=true)with q|q
  ·exact b9 q ▸ .head _
  ·exact .tail _ (ih q)
theorem Ep {x:Nm}(h:aO x aS=true):eB x=true:=
 List.any_eq_true.mpr ⟨x,eZ (List.all_eq_true.mp Ek x (eZ h)),y8 x⟩
section
variable (z:bS)
theorem Uo {n:Nat}{p:Nm}:CallOk z.c (n+1) 199 [.top 236,.dat (.str p)] [] (.dat (.boo (aO p aS))) []:=z.use (hs:=[]) (o:=.fz [] []) (g:=true) rfl trivial (by kernel_rfl)
theorem Jd {n:Nat}{p:Nm}(hp:List O):a9 z.c (n+1) hp (compareOp (bI .isin)) eP (.dat (.str p)) (.top 236) (aO p aS) hp:=
 Ol (t:=⟨236,230,235,[(Jb,.dat aR),(Jc,.dat fS),(tS,.dat (.str [])),(n9,.dat (.tup [.int 0,.int 43]))]⟩) (cl:=Dp) rfl rfl rfl (by
  have q:=qZ (σ:=[]) (hp:=hp) (args:=[.top 236,.dat (.str p)]) (n:=n+1) (by kernel_rfl) (A4 (A7 (n+1))) (Uo z)
  rw[BE]at q
  exact q)
theorem Mc {x:Nm}:CallOk z.c 3 220 [.top 236,.dat (.str x)] [] (.dat (.boo (eB x))) []:=by
 cases e:aO x aS with
 |true=>
  rw[Ep e]
  exact z.use (hs:=[.tst 162011031 true]) (o:=.fz [] []) (g:=cg [(true,aO x aS)]) (aB e aG) trivial (by kernel_rfl)
 |false=>
  obtain⟨i,b,h⟩:=Ul (z:=z) x
  rw[El b]
  cases hi:Nat.blt i nK with
  |false=>
   have e2:gU (i:Int) (43:Nat)=true:=UN (Nat.le_antisymm b.le (Nat.le_of_not_lt λq=>A8 (hi.symm.trans (A4 q))))
   exact z.use (hs:=[.tst 162011031 false,.cal 178 1 [] (.dat (.int i)) [],.tst 169011031 true]) (o:=.fz [] []) (g:=cg [(true,gU (i:Int) (43:Nat)),(false,aO x aS)]) (aB e2 (aB e aG)) (an h trivial) (by kernel_rfl)
  |true=>
   have lt:i<nK:=A3 hi
   have e2:gU (i:Int) (43:Nat)=false:=yX (by lia)
   have s:a9 z.c 2 [.fr [(d8,.top 236),(oA,.dat (.str x)),(Um,.dat (.int 0)),(Un,.dat (.int 43)),(tQ,.dat (.int i))]] getItem z.c.VT (.dat fS) (.dat (.int i)) (.dat (.str (kN.getD i []))) [.fr [(d8,.top 236),(oA,.dat (.str x)),(Um,.dat (.int 0)),(Un,.dat (.int 43)),(tQ,.dat (.int i))]]:=Ma lt
   exact z.use (hs:=[.tst 162011031 false,.cal 178 1 [] (.dat (.int i)) [],.tst 169011031 false,.itm 171015028 (.dat (.str (kN.getD i [])))]) (o:=.fz [] []) (g:=cg [(false,gU (i:Int) (43:Nat)),(false,aO x aS)]) (aB e2 (aB e aG)) (an s (an h trivial)) (by kernel_rfl)
noncomputable def rR:Fn:=iM iO [18,5] []
noncomputable def lF:ForI:=Di (bV rR.body 1)
noncomputable def lJ (x:Nm):Nat→Option Nm
 |0=>none
 |k+1=>bif aO (x.take k) aS then some (x.take k)else lJ x k
noncomputable abbrev y9 (x:Nm):Option Nm:=lJ x (x.length+1)
noncomputable abbrev zA (f:Nat→O):List O:=[f 0,f 1,f 2,f 3,f 4,f 5,f 6,f 7,f 8,f 9,f 10,f 11,f 12,f 13]
noncomputable def j7 (X:List O)(x:Nm)(eo:List (Nm×V)):List O:=X++[.fr ([(d8,.top 236),(oA,.dat (.str x))]++eo)]
noncomputable abbrev iE (i:Nat):List (Nm×V):=[(tQ,.dat (.int i))]
variable {x:Nm}{f:Nat→O}
theorem zB {α:Type}(x:List α)(k:Nat):dX x none (some (-((k+1:Nat):Int)))=x.take (x.length - (k+1)):=rfl
section
variable {k:Nat}{n:Nat}{b:Bool}
theorem Je (hx:x.length≤20000):RX z.c rR.names 4 ⟨0,[],true⟩ (j7 [] x (iE (k+1))) lF.b (match aO (x.take (x.length - (k+1))) aS with|true=>.ret (.dat (.str (x.take (x.length - (k+1)))))|false=>.next) (j7 [] x (iE (k+1))):=by
 have e:=congrArg (λx=>V.dat (.str x)) (zB x k)
 have t:=Jd z (n:=3) (p:=x.take (x.length - (k+1)))
 generalize x.take (x.length - (k+1))=y at *
 cases h:aO y aS with
 |true=>exact z.useX (hs:=[.val 177015026 (.dat (.str y)),.cmp 177015034 true,.val 178023034 (.dat (.str y))]) (g:=cg [(true,Nat.ble x.length lim),(true,Nat.ble x.length lim)]) (ob:=V.dat (.str (dX x none (some (-((k+1:Nat):Int)))))=V.dat (.str y)∧(∀ hp,a9 z.c 4 hp (compareOp (bI .isin)) eP (.dat (.str y)) (.top 236) true hp)∧V.dat (.str (dX x none (some (-((k+1:Nat):Int)))))=V.dat (.str y)∧True) (aB (li hx) (aB (li hx) aG)) ⟨e,λhp=>h▸t hp,e,trivial⟩ (by kernel_rfl)
 |false=>exact z.useX (hs:=[.val 177015026 (.dat (.str y)),.cmp 177015034 false]) (g:=cg [(true,Nat.ble x.length lim)]) (ob:=(∀ hp,a9 z.c 4 hp (compareOp (bI .isin)) eP (.dat (.str y)) (.top 236) false hp)∧V.dat (.str (dX x none (some (-((k+1:Nat):Int)))))=V.dat (.str y)∧True) (aB (li hx) aG) ⟨λhp=>h▸t hp,e,trivial⟩ (by kernel_rfl)
theorem Jf (hx:x.length≤20000):RX z.c rR.names 4 ⟨14,[],true⟩ (j7 (zA f) x (iE (k+1))) lF.b (match aO (x.take (x.length - (k+1))) aS with|true=>.ret (.dat (.str (x.take (x.length - (k+1)))))|false=>.next) (j7 (zA f) x (iE (k+1))):=by
 have e:=congrArg (λx=>V.dat (.str x)) (zB x k)
 have t:=Jd z (n:=3) (p:=x.take (x.length - (k+1)))
 generalize x.take (x.length - (k+1))=y at *
 cases h:aO y aS with
 |true=>exact z.useX (hs:=[.val 177015026 (.dat (.str y)),.cmp 177015034 true,.val 178023034 (.dat (.str y))]) (g:=cg [(true,Nat.ble x.length lim),(true,Nat.ble x.length lim)]) (ob:=V.dat (.str (dX x none (some (-((k+1:Nat):Int)))))=V.dat (.str y)∧(∀ hp,a9 z.c 4 hp (compareOp (bI .isin)) eP (.dat (.str y)) (.top 236) true hp)∧V.dat (.str (dX x none (some (-((k+1:Nat):Int)))))=V.dat (.str y)∧True) (aB (li hx) (aB (li hx) aG)) ⟨e,λhp=>h▸t hp,e,trivial⟩ (by kernel_rfl)
 |false=>exact z.useX (hs:=[.val 177015026 (.dat (.str y)),.cmp 177015034 false]) (g:=cg [(true,Nat.ble x.length lim)]) (ob:=(∀ hp,a9 z.c 4 hp (compareOp (bI .isin)) eP (.dat (.str y)) (.top 236) false hp)∧V.dat (.str (dX x none (some (-((k+1:Nat):Int)))))=V.dat (.str y)∧True) (aB (li hx) aG) ⟨λhp=>h▸t hp,e,trivial⟩ (by kernel_rfl)
theorem Jg {eo:List (Nm×V)}(he:eo=[]∨∃ v,eo=[(tQ,v)]):RG z.c rR.names 4 ⟨0,[],true⟩ (j7 [] x eo) lF.g (.dat (.int (k+1:Nat))) (j7 [] x (iE (k+1))):=by
 rcases he with rfl|⟨v,rfl⟩
 ·exact dL (by kernel_rfl) (by kernel_rfl)
 ·exact dL (by kernel_rfl) (by kernel_rfl)
theorem Jh {eo:List (Nm×V)}(he:eo=[]∨∃ v,eo=[(tQ,v)]):RG z.c rR.names 4 ⟨14,[],true⟩ (j7 (zA f) x eo) lF.g (.dat (.int (k+1:Nat))) (j7 (zA f) x (iE (k+1))):=by
 rcases he with rfl|⟨v,rfl⟩
 ·exact dL (by kernel_rfl) (by kernel_rfl)
 ·exact dL (by kernel_rfl) (by kernel_rfl)
theorem Er {n k:Nat}(h:k<n):(Cr 1 (kX 1 ((n:Int)+1)) 0)[k]? =some (.dat (.int (k+1:Nat))):=by
 rw[jV,show kX 1 ((n:Int)+1)=n by unfold kX;lia,if_pos h]
 exact congrArg (λi=>some (V.dat (.int i))) (by lia)
theorem PV {n:Nat}:(Cr 1 (kX 1 ((n:Int)+1)) 0)[n]? =none:=by
 rw[jV,show kX 1 ((n:Int)+1)=n by unfold kX;lia,if_neg (Nat.lt_irrefl n)]
theorem Et (hx:x.length≤20000):pC (.rng 1 ((x.length:Int)+1))=true:=Bool.and_eq_true_iff.mpr ⟨rfl,A4 (A5 (Nat.succ_le_succ hx) (by decide))⟩
noncomputable def Zj:Option Nm→Fl
 |some p=>.ret (.dat (.str p))
 |none=>.next
theorem Eu {F:Fx}{X:List O}{base:Nat}(ht:∀ k,RX z.c rR.names 4 F (j7 X x (iE (k+1))) lF.b (match aO (x.take (x.length - (k+1))) aS with|true=>.ret (.dat (.str (x.take (x.length - (k+1)))))|false=>.next) (j7 X x (iE (k+1))))
  (hb:∀ k eo,(eo=[]∨∃ v,eo=[(tQ,v)])→RG z.c rR.names 4 F (j7 X x eo) lF.g (.dat (.int (k+1:Nat))) (j7 X x (iE (k+1)))):
  ∀ (m k:Nat) (eo:List (Nm×V)),k+m=x.length→(eo=[]∨∃ v,eo=[(tQ,v)])→∃ eo',(eo'=[]∨∃ v,eo'=[(tQ,v)])∧s9 z.c rR.names 4 F lF.g lF.b base (.rng 1 ((x.length:Int)+1)) (m+1) k (j7 X x eo) (Zj (lJ x m)) (j7 X x eo'):=by
 intro m
 induction m with
 |zero=>
  intro k eo h he
  obtain rfl:k=x.length:=h
  exact⟨eo,he,.stop rfl PV⟩
 |succ m ih=>
  intro k eo h he
  have t:=ht k
  rw[show x.length - (k+1)=m by lia]at t
  have g:=hb k eo he
  show ∃ eo',_∧s9 _ _ _ _ _ _ _ _ _ _ _ (Zj (bif aO (x.take m) aS then some (x.take m)else lJ x m)) _
  cases e:aO (x.take m) aS with
  |true=>
   rw[e]at t
   exact⟨_,.inr ⟨_,rfl⟩,.out rfl (Er (by lia)) g t rfl⟩
  |false=>
   rw[e]at t
   obtain⟨eo',q,r⟩:=ih (k+1) _ (by lia) (.inr ⟨_,rfl⟩)
   exact⟨eo',q,.turn rfl (Er (by lia)) g t rfl .id r⟩
theorem Ew:y9 x=bif aO x aS then some x else lJ x x.length:=by
 show(bif aO (x.take x.length) aS then some (x.take x.length)else _)=_
 rw[List.take_length]
theorem Uq {p:Nm}(hx:x.length≤20000)(h:y9 x=some p):CallOk z.c 5 227 [.top 236,.dat (.str x)] [] (.dat (.str p)) []:=by
 rw[Ew]at h
 have t:=Jd z (n:=3) (p:=x)
 cases e:aO x aS with
 |true=>
  rw[e]at h t
  cases h
  exact z.use (hs:=[.cmp 174011025 true]) (o:=.fz [] []) (g:=true) rfl (an t trivial) (by kernel_rfl)
 |false=>
  rw[e]at h t
  obtain⟨eo,_,r⟩:=Eu z (base:=1) (λk=>Je z hx) (λk eo=>Jg z) x.length 0 [] (Nat.zero_add _) (.inl rfl)
  rw[show lJ x x.length=some p from h]at r
  have i:RE z.c rR.names 4 ⟨0,[],true⟩ (j7 [] x []) lF.i (.rng 1 ((x.length:Int)+1)) (j7 [] x []):=z.useE (hs:=[]) (g:=cg [(true,Nat.ble x.length lim)]) (aB (li hx) aG) trivial (by kernel_rfl)
  exact z.use (hs:=[.cmp 174011025 false,.stm 176 (.ret (.dat (.str p))) (j7 [] x eo)]) (o:=.fz [] []) (g:=true) (ob:=RS z.c rR.names 4 ⟨0,[],true⟩ (j7 [] x []) lF.s (.ret (.dat (.str p))) (j7 [] x eo)∧(∀ hp,a9 z.c 4 hp (compareOp (bI .isin)) eP (.dat (.str x)) (.top 236) false hp)∧True) rfl ⟨kZ (λ_ _=>rfl) i (Et hx) rfl r,t,trivial⟩ (by kernel_rfl)
theorem Ur (hx:x.length≤20000)(h:y9 x=none):∃ eo,(eo=[]∨∃ v,eo=[(tQ,v)])∧RX z.c rR.names 4 ⟨14,[],true⟩ (j7 (zA f) x []) (rR.body.take 2) .next (j7 (zA f) x eo):=by
 rw[Ew]at h
 have t:=Jd z (n:=3) (p:=x)
 cases e:aO x aS with
 |true=>rw[e]at h;cases h
 |false=>
  rw[e]at h t
  obtain⟨eo,q,r⟩:=Eu z (base:=15) (λk=>Jf z (f:=f) hx) (λk eo=>Jh z) x.length 0 [] (Nat.zero_add _) (.inl rfl)
  rw[show lJ x x.length=none from h]at r
  have i:RE z.c rR.names 4 ⟨14,[],true⟩ (j7 (zA f) x []) lF.i (.rng 1 ((x.length:Int)+1)) (j7 (zA f) x []):=z.useE (hs:=[]) (g:=cg [(true,Nat.ble x.length lim)]) (aB (li hx) aG) trivial (by kernel_rfl)
  exact⟨eo,q,z.useX (hs:=[.cmp 174011025 false,.stm 176 .next (j7 (zA f) x eo)]) (g:=true) (ob:=RS z.c rR.names 4 ⟨14,[],true⟩ (j7 (zA f) x []) lF.s .next (j7 (zA f) x eo)∧(∀ hp,a9 z.c 4 hp (compareOp (bI .isin)) eP (.dat (.str x)) (.top 236) false hp)∧True) rfl ⟨kZ (λ_ _=>rfl) i (Et hx) rfl r,t,trivial⟩ (by kernel_rfl)⟩
end
end
end
section
noncomputable def Ji:Nm:=[105,115,72,101,120]
noncomputable def BG:Nm:=[97,108,108,111,119,101,100]
noncomputable def Jj:Nm:=[114,97,100,105,120]
noncomputable def l5:Nm:=[99,104,97,114,83,116,97,99,107]
noncomputable def tU:Nm:=[99,104,97,114,65,115,73,110,116]
noncomputable def aJ:Nm:=[110,117,109,101,114,105,99,45,101,110,116,105,116,121,45,119,105,116,104,111,117,116,45,115,101,109,105,99,111,108,111,110]
inductive Mo where
 |txt (d:D)
 |att (v:Nm)
noncomputable def Mo.ct:Mo→CT
 |.txt d=>.dead true d
 |.att v=>.at_ v
noncomputable abbrev aM (s:Nm):List V:=s.map λc=>.dat (.str [c])
theorem fC (s:Nm)(c:Nat):aM s++[.dat (.str [c])]=aM (s++[c]):=by unfold aM;rw[List.map_append];rfl
theorem tV:∀ s:Nm,eE (aM s)=some (s.map λc=>[c])
 | []=>rfl
 |c::s=>by
  show((eE (aM s)).map _)=_
  rw[tV s]
  rfl
theorem oC:∀ s:Nm,(s.map λc=>[c]).flatten=s
 | []=>rfl
 |c::s=>by rw[List.map_cons,List.flatten_cons,oC s];rfl
theorem eA (s:Nm):(aM s).length=s.length:=List.length_map ..
inductive RplOk (K:Frag):Prop
 |mk (o:Obj) (f:Int→Option Value) (l:K.lookup 46=some o) (m:∀ h:Heap,h.get? 46=some o→h.IntMap 46 f) (e:∀ v:Nat,mR v→v≠13→f v=none)
noncomputable def Jk:Fn:=iM iO [21,2] []
noncomputable def nW:WhlI:=Au (bV Jk.body 5)
noncomputable def YZ (hex:Bool):D:=match hex with
 |true=>hP
 |false=>nV
noncomputable def aZ (hex:Bool)(c:Nat):Bool:=match hex with
 |true=>match hP with
  |.tup ds=>bU (.str [c]) ds
  |_=>false
 |false=>match nV with
  |.tup ds=>bU (.str [c]) ds
  |_=>false
noncomputable def Md (hex:Bool):Nat:=match hex with
 |true=>16
 |false=>10
noncomputable def NF (hex:Bool)(eo:List (Nm×V)):O:=.fr ([(d8,.ref 0),(Ji,.dat (.boo hex)),(BG,.dat (YZ hex)),(Jj,.dat (.int (Md hex))),(l5,.ref 12)]++eo)
noncomputable def NL (r:Stm)(st:Nat)(cv:V)(a b d:O)(hex:Bool)(ks:List V)(eo:List (Nm×V)):List O:=XF r st cv [] [a,b,d]++[NF hex eo,.lst ks]
noncomputable abbrev cE (c:V):List (Nm×V):=[(PB,c)]
section
variable {z:bS}{T:Nm}{E:Nat}{r r':Stm}{st:Nat}{cv:V}{a b d:O}{hex:Bool}{ks:List V}{ms l:Nm}
noncomputable abbrev NX:Fx:=⟨11,[],true⟩
theorem rS {c:Nat}{t:Bool}(h:aZ hex c=t):RB z.c Jk.names 4 NX (NL r st cv a b d hex ks (cE (.dat (.str [c])))) nW.t t (NL r st cv a b d hex ks (cE (.dat (.str [c])))):=by
 cases hex with
 |true=>cases t with
  |true=>exact z.useT (hs:=[.tst 209014026 true]) (g:=cg [(true,aZ true c)]) (aB h aG) trivial (by kernel_rfl)
  |false=>exact z.useT (hs:=[.tst 209014026 false]) (g:=cg [(false,aZ true c)]) (aB h aG) trivial (by kernel_rfl)
 |false=>cases t with
  |true=>exact z.useT (hs:=[.tst 209014026 true]) (g:=cg [(true,aZ false c)]) (aB h aG) trivial (by kernel_rfl)
  |false=>exact z.useT (hs:=[.tst 209014026 false]) (g:=cg [(false,aZ false c)]) (aB h aG) trivial (by kernel_rfl)
theorem PY:RB z.c Jk.names 4 NX (NL r st cv a b d hex ks (cE (.dat .non))) nW.t false (NL r st cv a b d hex ks (cE (.dat .non))):=by
 cases hex with
 |true=>exact z.useT (hs:=[]) (g:=true) rfl trivial (by kernel_rfl)
 |false=>exact z.useT (hs:=[]) (g:=true) rfl trivial (by kernel_rfl)
theorem Ey {c:Nat}{v:D}(hk:ks.length≤20000)(h:aT z r (.dat v) r'):RX z.c Jk.names 4 NX (NL r st cv a b d hex ks (cE (.dat (.str [c])))) nW.b .next (NL r' st cv a b d hex (ks++[.dat (.str [c])]) (cE (.dat v))):=
 z.useX (hs:=[aU r' (.dat v)]) (g:=cg [(true,Nat.ble ks.length lim)]) (aB (li hk) aG) (an h trivial) (by kernel_rfl)
inductive Lft (T:Nm) (E:Nat) (r:Stm):D→Nm→Prop
 |non (a:At' T true E r [] []):Lft T E r .non []
 |sgn {c:Nat} {ms l:Nm} (a:At' T true E r (c::ms) l) (hl:l.length<15000):Lft T E r (.str [c]) (c::l)
theorem PZ:∀ (l:Nm) (c:Nat) (s:Nm) (r:Stm) (ms:Nm),At' T true E r (c::ms) l→l.length<15000→s.length+l.length≤15000→∃ r' v,Lft T E r' v ((c::l).dropWhile (aZ hex))∧
  ∃ m,mB z.c Jk.names 4 NX nW.t nW.b 13 m (NL r st cv a b d hex (aM s) (cE (.dat (.str [c])))) .next (NL r' st cv a b d hex (aM (s++(c::l).takeWhile (aZ hex))) (cE (.dat v))):=by
 intro l
 induction l with
 |nil=>
  intro c s r ms at_ hl h
  cases e:aZ hex c with
  |false=>
   rw[List.dropWhile_cons_of_neg (by rw[e];exact A8),List.takeWhile_cons_of_neg (by rw[e];exact A8),B1]
   exact⟨r,_,.sgn at_ hl,1,.stop (rS e)⟩
  |true=>
   rw[List.dropWhile_cons_of_pos e,List.takeWhile_cons_of_pos e]
   obtain⟨r1,h1,a1⟩:=dU (z:=z) at_
   refine⟨r1,_,.non a1.none,2,?_⟩
   rw[show([]:Nm).takeWhile (aZ hex)=[]from rfl,← fC]
   exact .turn (rS e) (Ey (by rw[eA];lia) h1) rfl .id (.stop PY)
 |cons c' l ih=>
  intro c s r ms at_ hl h
  cases e:aZ hex c with
  |false=>
   rw[List.dropWhile_cons_of_neg (by rw[e];exact A8),List.takeWhile_cons_of_neg (by rw[e];exact A8),B1]
   exact⟨r,_,.sgn at_ hl,1,.stop (rS e)⟩
  |true=>
   rw[List.dropWhile_cons_of_pos e,List.takeWhile_cons_of_pos e]
   obtain⟨r1,h1,a1⟩:=bY (z:=z) at_
   rw[B3]at h hl
   obtain⟨r2,v,lf,m,q⟩:=ih c' (s++[c]) r1 _ a1 (by lia) (by rw[A2];show s.length+1+_≤_;lia)
   refine⟨r2,v,lf,m+1,?_⟩
   rw[show s++c::(c'::l).takeWhile (aZ hex)=s++[c]++(c'::l).takeWhile (aZ hex) by rw[B2];rfl]
   have t:=Ey (z:=z) (st:=st) (cv:=cv) (a:=a) (b:=b) (d:=d) (hex:=hex) (ks:=aM s) (c:=c) (by rw[eA];lia) h1
   rw[fC]at t
   exact .turn (rS e) t rfl .id q
theorem dH {n:Nat}{hp:List O}{k:Nat}{s:Nm}(e:items (.ref k) hp=some (aM s))(hl:s.length≤20000):eT z.c n hp (.str [] .join) [.ref k] (.dat (.str s)) hp:=by
 have h:=mN (c:=z.c) (n:=n) e (tV s) (by rw[oC];exact li hl)
 rw[oC]at h
 exact h
theorem Us (R:RplOk z.K){n v:Nat}(hv:mR v)(h13:v≠13)(hp:List O):a9 z.c n hp (compareOp (bI .isin)) eP (.dat (.int v)) (.top 46) false hp:=λA W s u u' zz (.mk t) hv'=>match R with
 |.mk o f l m e=>by
  rw[show u'=.ref 46 from hv']
  exact wpAny_in_intMap (m _ (zz.In _ _ l)) (by rw[e v hv h13];exact .tok zz rfl)
noncomputable def BH:List D:=[11,65534,65535,131070,131071,196606,196607,262142,262143,327678,327679,393214,393215,458750,458751,524286,524287,589822,589823,655358,655359,720894,720895,786430,786431,851966,851967,917502,917503,983038,983039,1048574,1048575,1114110,1114111].map D.int
theorem Me {v:Nat}(h:v%65536<65534)(h11:v≠11):bU (.int v) BH=false:=by
 refine Bool.eq_false_iff.mpr λq=>?_
 obtain⟨d,m,e⟩:=List.any_eq_true.mp q
 have k:(BH.all λd=>match d with|.int (.ofNat i)=>Nat.beq i 11||Nat.ble 65534 (i%65536)|_=>false)=true:=by kernel_rfl
 have k:=List.all_eq_true.mp k d m
 cases d with
 |int i=>cases i with
  |ofNat i=>
   have e:gU (Int.ofNat i) v=true:=e
   rw[← bL]at e
   have e:i=v:=by have:=eq_of_beq e;exact Int.ofNat.inj this
   subst e
   rcases A1 k with k|k
   ·exact h11 (B0 k)
   ·exact Nat.lt_irrefl _ (A6 h (A3 k))
  |negSucc _=>cases k
 |_=>cases k
noncomputable def Zk:Stmt:=bV Jk.body 7
noncomputable abbrev aE (c:D)(v:Nat):List (Nm×V):=[(PB,.dat c),(tU,.dat (.int v))]
noncomputable abbrev bE (c:D)(v:Nat):List (Nm×V):=aE c v++[(rM,.dat (.str [v]))]
theorem Ut {v:Nat}{c:D}(R:RplOk z.K)(hv:mR v)(h13:v≠13):RS z.c Jk.names 4 NX (NL r st cv a b d hex ks (aE c v)) Zk .next (NL r st cv a b d hex ks (bE c v)):=by
 have t:=Us (z:=z) R (n:=4) hv h13
 have u:v≤1114111:=by rcases gA hv with h|h|h|h <;>first|lia|exact h.hi
 have ck:Nat.ble v 1114111=true:=A4 u
 have mx:aX 1114111 v=false:=(cN 1114111 v).symm.trans (decide_eq_false (by lia))
 rcases gA hv with rfl|rfl|h|h
 ·exact z.useS (hs:=[.cmp 213011045 false]) (g:=cg []) aG (an t trivial) (by kernel_rfl)
 ·exact absurd rfl h13
 ·have od:=Me (v:=v) (by lia) (by lia)
  exact z.useS (hs:=[.cmp 213011045 false,.tst 216013018 false,.tst 216044063 false,.tst 220015016 true,.tst 220015034 false,.tst 220038040 true,.tst 220038059 false,.tst 220063066 false,.tst 220091096 false,.tst 220124415 false]) (g:=cg [(true,Nat.ble v 1114111),(false,bU (.int v) BH),(false,!aX v 64976),(false,!aX v 127),(false,!aX 31 v),(true,!aX v 14),(false,!aX 8 v),(true,!aX v 1),(false,aX 1114111 v),(false,!aX v 55296)]) (aB ck (aB od (aB (dN (a:=v) (b:=64976) (by lia)) (aB (dN (a:=v) (b:=127) (by lia)) (aB (dN (a:=31) (b:=v) (by lia)) (aB (e9 (a:=v) (b:=14) (by lia)) (aB (dN (a:=8) (b:=v) (by lia)) (aB (e9 (a:=v) (b:=1) (by lia)) (aB mx (aB (dN (a:=v) (b:=55296) (by lia)) aG)))))))))) (an t trivial) (by kernel_rfl)
 ·have l:=h.lo
  have gp:=h.gap
  have od:=Me h.md (by lia)
  rcases gp with q|q|q
  ·exact z.useS (hs:=[.cmp 213011045 false,.tst 216013018 false,.tst 216044063 false,.tst 220015016 true,.tst 220015034 false,.tst 220038040 true,.tst 220038059 false,.tst 220063066 true,.tst 220063086 false,.tst 220091096 false,.tst 220124415 false]) (g:=cg [(true,Nat.ble v 1114111),(false,bU (.int v) BH),(false,!aX v 64976),(false,!aX 159 v),(true,!aX v 127),(false,!aX 31 v),(true,!aX v 14),(false,!aX 8 v),(true,!aX v 1),(false,aX 1114111 v),(false,!aX v 55296)]) (aB ck (aB od (aB (dN (a:=v) (b:=64976) (by lia)) (aB (dN (a:=159) (b:=v) (by lia)) (aB (e9 (a:=v) (b:=127) (by lia)) (aB (dN (a:=31) (b:=v) (by lia)) (aB (e9 (a:=v) (b:=14) (by lia)) (aB (dN (a:=8) (b:=v) (by lia)) (aB (e9 (a:=v) (b:=1) (by lia)) (aB mx (aB (dN (a:=v) (b:=55296) (by lia)) aG))))))))))) (an t trivial) (by kernel_rfl)
  ·exact z.useS (hs:=[.cmp 213011045 false,.tst 216013018 true,.tst 216013040 false,.tst 216044063 false,.tst 220015016 true,.tst 220015034 false,.tst 220038040 true,.tst 220038059 false,.tst 220063066 true,.tst 220063086 false,.tst 220091096 false,.tst 220124415 false]) (g:=cg [(true,Nat.ble v 1114111),(false,bU (.int v) BH),(false,!aX v 64976),(false,!aX 159 v),(true,!aX v 127),(false,!aX 31 v),(true,!aX v 14),(false,!aX 8 v),(true,!aX v 1),(false,aX 1114111 v),(false,!aX 57343 v),(true,!aX v 55296)]) (aB ck (aB od (aB (dN (a:=v) (b:=64976) (by lia)) (aB (dN (a:=159) (b:=v) (by lia)) (aB (e9 (a:=v) (b:=127) (by lia)) (aB (dN (a:=31) (b:=v) (by lia)) (aB (e9 (a:=v) (b:=14) (by lia)) (aB (dN (a:=8) (b:=v) (by lia)) (aB (e9 (a:=v) (b:=1) (by lia)) (aB mx (aB (dN (a:=57343) (b:=v) (by lia)) (aB (e9 (a:=v) (b:=55296) (by lia)) aG)))))))))))) (an t trivial) (by kernel_rfl)
  ·exact z.useS (hs:=[.cmp 213011045 false,.tst 216013018 true,.tst 216013040 false,.tst 216044063 false,.tst 220015016 true,.tst 220015034 false,.tst 220038040 true,.tst 220038059 false,.tst 220063066 true,.tst 220063086 false,.tst 220091096 true,.tst 220091118 false,.tst 220124415 false]) (g:=cg [(true,Nat.ble v 1114111),(false,bU (.int v) BH),(false,!aX 65007 v),(true,!aX v 64976),(false,!aX 159 v),(true,!aX v 127),(false,!aX 31 v),(true,!aX v 14),(false,!aX 8 v),(true,!aX v 1),(false,aX 1114111 v),(false,!aX 57343 v),(true,!aX v 55296)]) (aB ck (aB od (aB (dN (a:=65007) (b:=v) (by lia)) (aB (e9 (a:=v) (b:=64976) (by lia)) (aB (dN (a:=159) (b:=v) (by lia)) (aB (e9 (a:=v) (b:=127) (by lia)) (aB (dN (a:=31) (b:=v) (by lia)) (aB (e9 (a:=v) (b:=14) (by lia)) (aB (dN (a:=8) (b:=v) (by lia)) (aB (e9 (a:=v) (b:=1) (by lia)) (aB mx (aB (dN (a:=57343) (b:=v) (by lia)) (aB (e9 (a:=v) (b:=55296) (by lia)) aG))))))))))))) (an t trivial) (by kernel_rfl)
theorem Pa {n:Nat}{y:Nm}(hp:List O):a9 z.c n hp (compareOp (bI .ne)) eP (.dat .non) (.dat (.str y)) true hp:=λ_ _ _ u _ z hu (.mk _)=>(show u=Value.none from hu)▸PySem.SeqAt.RcNeAt.none_str _ _ _ _ _ _ (bo z _ rfl)
noncomputable def cO:Tok:=.err aJ
noncomputable def lK:Nm→List Tok
 | []=>[cO]
 |c::_=>bif nb [c] [59]then []else [cO]
noncomputable def oD:Nm→Nm
 | []=>[]
 |c::t=>bif nb [c] [59]then t else c::t
noncomputable def Mo.x (m:Mo)(i:Nat):O:=(UV m.ct).getD i .gone
noncomputable abbrev NM (r:Stm)(st:Nat)(m:Mo)(hex:Bool)(ks:List V)(eo:List (Nm×V)):List O:=NL r st (JY m.ct) (m.x 0) (m.x 1) (m.x 2) hex ks eo
noncomputable abbrev Pb (hs:List Hi)(r1 r2:Stm)(st:Nat)(m:Mo)(hex:Bool)(c:Nat)(x:Nm)(w:D)(v:Nat):List Hi:=
 [aU r1 (.dat (.str [c])),.stm 209 .next (NM r2 st m hex (aM x) (cE (.dat w))),.bm (.dat (.str x)) (NM r2 st m hex (aM x) (cE (.dat w))),.val 212020050 (.dat (.int v)),.stm 213 .next (NM r2 st m hex (aM x) (bE w v))]++hs
noncomputable abbrev oE (z:bS)(r r1 r2:Stm)(st:Nat)(m:Mo)(hex:Bool)(c:Nat)(x:Nm)(w:D)(v:Nat):Prop:=
 RS z.c Jk.names 4 NX (NM r2 st m hex (aM x) (aE w v)) Zk .next (NM r2 st m hex (aM x) (bE w v))∧V.dat (.int ((fL (Md hex) x).getD 0:Nat))=V.dat (.int v)∧eT z.c 4 (NM r2 st m hex (aM x) (cE (.dat w))) (.str [] .join) [.ref 12] (.dat (.str x)) (NM r2 st m hex (aM x) (cE (.dat w)))∧
 RS z.c Jk.names 4 NX (NM r1 st m hex [] (cE (.dat (.str [c])))) nW.s .next (NM r2 st m hex (aM x) (cE (.dat w)))∧aT z r (.dat (.str [c])) r1∧True
noncomputable abbrev Jl (hex:Bool)(x:Nm):List (Bool×Bool):=[(true,(fL (Md hex) x).isSome&&(uV x&&Nat.ble x.length 640))]
noncomputable abbrev XG (z:bS)(r:Stm)(st:Nat)(m:Mo)(hex:Bool)(v:Nat)(r':Stm)(es:List Tok):Prop:=CallOk z.c 5 275 [.ref 0,.dat (.boo hex)] (TL r st m.ct []) (.dat (.str [v])) (TL r' st m.ct es)
section
variable {m:Mo}{c v c':Nat}{r1 r2 r3:Stm}{x:Nm}(g1:cg (Jl hex x)=true)
include g1
theorem Yb (o1:oE z r r1 r2 st m hex c x .non v):XG z r st m hex v r2 [cO]:=
 z.use (hs:=Pb [.cmp 227011019 true,dF r2] r1 r2 st m hex c x .non v) (o:=.fz [13] []) (g:=cg (Jl hex x)) (ob:=cD z r2 (.dat .non) r2∧(∀ hp,a9 z.c 4 hp (compareOp (bI .ne)) eP (.dat .non) (.dat (.str [59])) true hp)∧oE z r r1 r2 st m hex c x .non v) g1 ⟨dE,Pa,o1⟩ (by cases m <;>cases hex <;>kernel_rfl)
theorem Yc (o1:oE z r r1 r2 st m hex c x (.str [59]) v):XG z r st m hex v r2 []:=
 z.use (hs:=Pb [] r1 r2 st m hex c x (.str [59]) v) (o:=.fz [] []) (g:=cg (Jl hex x)) (ob:=oE z r r1 r2 st m hex c x (.str [59]) v) g1 o1 (by cases m <;>cases hex <;>kernel_rfl)
theorem Yd (e:nb [c'] [59]=false)(h3:cD z r2 (.dat (.str [c'])) r3)(o1:oE z r r1 r2 st m hex c x (.str [c']) v):XG z r st m hex v r3 [cO]:=
 z.use (hs:=Pb [.tst 227011019 true,dF r3] r1 r2 st m hex c x (.str [c']) v) (o:=.fz [13] []) (g:=cg ((true,!nb [c'] [59])::Jl hex x)) (ob:=cD z r2 (.dat (.str [c'])) r3∧oE z r r1 r2 st m hex c x (.str [c']) v) (aB (congrArg (!·) e) g1) ⟨h3,o1⟩ (by cases m <;>cases hex <;>kernel_rfl)
theorem Pc {w:D}{y:Nm}(lf:Lft T E r2 w y):oE z r r1 r2 st m hex c x w v→∃ r',XG z r st m hex v r' (lK y)∧At' T true E r' [] (oD y):=
 match lf with
 |.non a=>λo1=>⟨r2,Yb g1 o1,a⟩
 | @Lft.sgn _ _ _ c' _ l' a hl'=>λo1=>match e:nb [c'] [59]with
  |true=>⟨r2,by rw[show lK (c'::l')=[]from congrArg (cond · [] [cO]) e];exact Yc g1 (cL e▸o1),by rw[show oD (c'::l')=l' from congrArg (cond · l' (c'::l')) e];exact a.none⟩
  |false=>(fA (z:=z) a hl' (.inr ⟨rfl,rfl⟩)).elim λr3 q=>⟨r3,by rw[show lK (c'::l')=[cO]from congrArg (cond · [] [cO]) e];exact Yd g1 e q.1 o1,by rw[show oD (c'::l')=c'::l' from congrArg (cond · l' (c'::l')) e];exact q.2.none⟩
end
theorem Uu (R:RplOk z.K){m:Mo}{c v:Nat}(at_:At' T true E r ms (c::l))(h:fL (Md hex) ((c::l).takeWhile (aZ hex))=some v)(hx:aZ hex c=true)(hl:((c::l).takeWhile (aZ hex)).length≤640)(hv:mR v)(h13:v≠13):
  ∃ r',CallOk z.c 5 275 [.ref 0,.dat (.boo hex)] (TL r st m.ct []) (.dat (.str [v])) (TL r' st m.ct (lK ((c::l).dropWhile (aZ hex))))∧At' T true E r' [] (oD ((c::l).dropWhile (aZ hex))):=by
 obtain⟨r1,h1,a1⟩:=bY (z:=z) at_
 have al:l.length<15000:=by have:=at_.len;rw[B3]at this;lia
 obtain⟨r2,w,lf,k,q⟩:=PZ (z:=z) (st:=st) (cv:=JY m.ct) (a:=m.x 0) (b:=m.x 1) (d:=m.x 2) (hex:=hex) l c [] r1 _ a1 al (by show 0+_≤_;lia)
 rw[List.nil_append]at q
 have nx:uV ((c::l).takeWhile (aZ hex))=true:=by rw[List.takeWhile_cons_of_pos hx];rfl
 exact Pc (aB (by rw[h,nx];exact A4 hl) aG) lf ⟨Ut R hv h13,by rw[h];rfl,dH rfl (A5 hl (by decide)),i9 q,h1,trivial⟩
end
end
section
noncomputable def pJ:Nm:=aAi
noncomputable def mJ:Nm:=aAh
noncomputable def Ez:Nm:=[111,117,116,112,117,116]
noncomputable def l6:Fn:=iM iO [21,3] [.dat .non,.dat (.boo false)]
noncomputable def Zl:List Stmt:=(SW (bV (SW (bV l6.body 2)).2 0)).2
noncomputable def tX:WhlI:=Au (bV Zl 0)
noncomputable def mx:Nm→Nm→Nm×Nm
 |p,[]=>(p,[])
 |p,c::l=>bif eB (p++[c])then mx (p++[c]) l else(p,c::l)
noncomputable def CF (al:D)(fa:Bool)(out:Nm)(eo:List (Nm×V)):O:=.fr ([(d8,.ref 0),(pJ,.dat al),(mJ,.dat (.boo fa)),(Ez,.dat (.str out)),(l5,.ref 12)]++eo)
noncomputable def CL (r:Stm)(st:Nat)(cv:V)(a b d:O)(q:List Tok)(al:D)(fa:Bool)(out:Nm)(ks:List V)(eo:List (Nm×V)):List O:=XF r st cv q [a,b,d]++[CF al fa out eo,.lst ks]
section
variable {z:bS}{T:Nm}{E:Nat}{r r':Stm}{st:Nat}{cv:V}{a b d:O}{al:D}{fa:Bool}{ks:List V}{ms l:Nm}
noncomputable abbrev CX:Fx:=⟨11,[],true⟩
theorem zC {α:Type}{ks:List α}{v:α}:sQ (ks++[v]) (-1)=some v:=by
 show(match Nat.ble 1 (ks++[v]).length with|true=>some ((ks++[v]).length-1)|false=>none).bind (λj=>(ks++[v])[j]?)=_
 rw[A2,show Nat.ble 1 (ks.length+[v].length)=true from A4 (Nat.succ_le_succ (Nat.zero_le _))]
 show(ks++[v])[ks.length+1-1]? =_
 rw[Nat.add_sub_cancel,List.getElem?_append_right (A7 _),Nat.sub_self]
 rfl
theorem FA {n:Nat}{v:V}{eo:List (Nm×V)}{out:Nm}{q:List Tok}:a9 z.c n (CL r st cv a b d q al fa out (ks++[v]) eo) getItem z.c.VT (.ref 12) (.dat (.int (-1))) v (CL r st cv a b d q al fa out (ks++[v]) eo):=eF (xs:=ks++[v]) rfl zC rfl
theorem FB {c:Nat}{out:Nm}:RB z.c l6.names 5 CX (CL r st cv a b d [] al fa out (ks++[.dat (.str [c])]) []) tX.t true (CL r st cv a b d [] al fa out (ks++[.dat (.str [c])]) []):=
 z.useT (hs:=[.itm 251018031 (.dat (.str [c]))]) (g:=true) (ob:=a9 z.c 5 (CL r st cv a b d [] al fa out (ks++[.dat (.str [c])]) []) getItem z.c.VT (.ref 12) (.dat (.int (-1))) (.dat (.str [c])) (CL r st cv a b d [] al fa out (ks++[.dat (.str [c])]) [])∧True) rfl ⟨FA,trivial⟩ (by kernel_rfl)
theorem Pd {out:Nm}:RB z.c l6.names 5 CX (CL r st cv a b d [] al fa out (ks++[.dat .non]) []) tX.t false (CL r st cv a b d [] al fa out (ks++[.dat .non]) []):=
 z.useT (hs:=[.itm 251018031 (.dat .non)]) (g:=true) (ob:=a9 z.c 5 (CL r st cv a b d [] al fa out (ks++[.dat .non]) []) getItem z.c.VT (.ref 12) (.dat (.int (-1))) (.dat .non) (CL r st cv a b d [] al fa out (ks++[.dat .non]) [])∧True) rfl ⟨FA,trivial⟩ (by kernel_rfl)
theorem Uv {x:Nm}{w:D}{out:Nm}(hx:x.length≤20000)(h:eB x=true)(h1:aT z r (.dat w) r'):RX z.c l6.names 5 CX (CL r st cv a b d [] al fa out (aM x) []) tX.b .next (CL r' st cv a b d [] al fa out (aM x++[.dat w]) []):=
 z.useX (hs:=[.bm (.dat (.str x)) (CL r st cv a b d [] al fa out (aM x) []),.cal 220 3 [] (.dat (.boo true)) [],aU r' (.dat w)]) (g:=cg [(true,Nat.ble (aM x).length lim)])
  (ob:=aT z r (.dat w) r'∧CallOk z.c 3 220 [.top 236,.dat (.str x)] [] (.dat (.boo true)) []∧eT z.c 5 (CL r st cv a b d [] al fa out (aM x) []) (.str [] .join) [.ref 12] (.dat (.str x)) (CL r st cv a b d [] al fa out (aM x) [])∧True) (aB (li (by rw[eA];exact hx)) aG) ⟨h1,h▸Mc z,dH rfl hx,trivial⟩ (by kernel_rfl)
theorem Mf {x:Nm}{out:Nm}(hx:x.length≤20000)(h:eB x=false):RX z.c l6.names 5 CX (CL r st cv a b d [] al fa out (aM x) []) tX.b .brk (CL r st cv a b d [] al fa out (aM x) []):=
 z.useX (hs:=[.bm (.dat (.str x)) (CL r st cv a b d [] al fa out (aM x) []),.cal 220 3 [] (.dat (.boo false)) []]) (g:=true)
  (ob:=CallOk z.c 3 220 [.top 236,.dat (.str x)] [] (.dat (.boo false)) []∧eT z.c 5 (CL r st cv a b d [] al fa out (aM x) []) (.str [] .join) [.ref 12] (.dat (.str x)) (CL r st cv a b d [] al fa out (aM x) [])∧True) rfl ⟨h▸Mc z,dH rfl hx,trivial⟩ (by kernel_rfl)
theorem Pe {out:Nm}:∀ (l:Nm) (c:Nat) (p:Nm) (r:Stm) (ms:Nm),At' T true E r (c::ms) l→l.length<15000→p.length+l.length≤16000→∃ r' w,Lft T E r' w (mx p (c::l)).2∧
  ∃ m,mB z.c l6.names 5 CX tX.t tX.b 13 m (CL r st cv a b d [] al fa out (aM (p++[c])) []) .next (CL r' st cv a b d [] al fa out (aM (mx p (c::l)).1++[.dat w]) []):=by
 intro l
 induction l with
 |nil=>
  intro c p r ms at_ hl h
  have t:=FB (z:=z) (r:=r) (st:=st) (cv:=cv) (a:=a) (b:=b) (d:=d) (al:=al) (fa:=fa) (ks:=aM p) (c:=c) (out:=out)
  rw[fC]at t
  have ln:(p++[c]).length≤20000:=by rw[A2];show p.length+1≤_;lia
  show ∃ r' w,Lft T E r' w (bif eB (p++[c])then mx (p++[c]) []else(p,[c])).2∧∃ m,mB _ _ _ _ _ _ _ _ _ _ (CL r' st cv a b d [] al fa out (aM (bif eB (p++[c])then mx (p++[c]) []else(p,[c])).1++[.dat w]) [])
  cases e:eB (p++[c])with
  |true=>
   obtain⟨r1,h1,a1⟩:=dU (z:=z) at_
   exact⟨r1,.non,.non a1.none,2,.turn t (Uv ln e h1) rfl .id (.stop Pd)⟩
  |false=>
   have k:=Mf (z:=z) (r:=r) (st:=st) (cv:=cv) (a:=a) (b:=b) (d:=d) (al:=al) (fa:=fa) (out:=out) ln e
   rw[← fC]at k t ⊢
   exact⟨r,.str [c],.sgn at_ hl,1,.out t k rfl⟩
 |cons c' l ih=>
  intro c p r ms at_ hl h
  have t:=FB (z:=z) (r:=r) (st:=st) (cv:=cv) (a:=a) (b:=b) (d:=d) (al:=al) (fa:=fa) (ks:=aM p) (c:=c) (out:=out)
  rw[fC]at t
  rw[B3]at h hl
  have ln:(p++[c]).length≤20000:=by rw[A2];show p.length+1≤_;lia
  show ∃ r' w,Lft T E r' w (bif eB (p++[c])then mx (p++[c]) (c'::l)else(p,c::c'::l)).2∧∃ m,mB _ _ _ _ _ _ _ _ _ _ (CL r' st cv a b d [] al fa out (aM (bif eB (p++[c])then mx (p++[c]) (c'::l)else(p,c::c'::l)).1++[.dat w]) [])
  cases e:eB (p++[c])with
  |true=>
   obtain⟨r1,h1,a1⟩:=bY (z:=z) at_
   obtain⟨r2,w,lf,m,q⟩:=ih c' (p++[c]) r1 _ a1 (by lia) (by rw[A2];show p.length+1+_≤_;lia)
   have k:=Uv (z:=z) (st:=st) (cv:=cv) (a:=a) (b:=b) (d:=d) (al:=al) (fa:=fa) (out:=out) ln e h1
   rw[fC]at k
   exact⟨r2,w,lf,m+1,.turn t k rfl .id q⟩
  |false=>
   have k:=Mf (z:=z) (r:=r) (st:=st) (cv:=cv) (a:=a) (b:=b) (d:=d) (al:=al) (fa:=fa) (out:=out) ln e
   rw[← fC]at k t ⊢
   exact⟨r,.str [c],.sgn at_ (by rw[B3];exact hl),1,.out t k rfl⟩
end
end
section
noncomputable def gO:Nm:=[101,110,116,105,116,121,78,97,109,101]
noncomputable abbrev dl (ds:List D):List V:=ds.map .dat
theorem R2.unmap {α β γ:Type}{R:α→β→Prop}{f:γ→α}:∀ {xs:List γ} {ys:List β},R2 R (xs.map f) ys→R2 (λx=>R (f x)) xs ys
 | [],_,h=>h
 |_::_,_,.mk a r=>.mk a (R2.unmap r)
section
variable {c:Cx}{sc:aH}{n:Nat}{F:Fx}{hp hp1 hp2:List O}{l:Nat}{ds:List D}
theorem rT {P:Params}{W:Wd}{h:Heap}(R:Rel P W hp h)(e:hp[l]?.bind O.lstE=some (dl ds)):Rel P W (hp.set l (.dls ds)) h∧Ext W hp h W (hp.set l (.dls ds)) h:=
 R.change (dY e) (λ_ _=>rfl) ((by rcases R.lst (dY e)with⟨vs,n,g,d⟩;exact .mk _ g (.mk vs n (DRs.r2.mpr (R2.unmap (f:=V.dat) d))))) λob ob' e1 e2 f=>by rw[e1]at e2;cases e2;exact f
theorem eG {α β:Type}{t:Env→Sem α}{RR:RT β α}{b:β}(h:Run c sc n F hp t RR b hp1)(e:hp1[l]?.bind O.lstE=some (dl ds)):Run c sc n F hp t RR b (hp1.set l (.dls ds)):=λA W s env z=>
 wpAny_mono (h A W s env z) (λa s' p=>(by rcases p with⟨W',r,L,x⟩;exact(.mk W' (rT r e).1 ⟨L.e.trans (rT r e).2,L.g,L.o⟩ x))) λ_ _ f=>f.elim
theorem tY {f:Nat}{args:List V}{v:V}(h:CallOk c n f args hp v hp1)(e:hp1[l]?.bind O.lstE=some (dl ds)):CallOk c n f args hp v (hp1.set l (.dls ds)):=
 ⟨h.fn,λA W s vals aa ha z hv=>codeAny_mono (h.run A W s vals aa ha z hv) λr s' q=>(by rcases q with⟨u,p⟩;exact .mk u ((by rcases p with⟨W',r,L,x⟩;exact(.mk W' (rT r e).1 ⟨L.e.trans (rT r e).2,L.g,L.o⟩ x))))⟩
end
noncomputable def pK:Stmt:=bV Zl 1
noncomputable def Jm:List Expr×Expr×Pos:=sT (bV (Hh pK).1 0)
noncomputable def FC:Expr×List Expr×Pos:=nA Jm.2.1
noncomputable def Pf:Expr×List Stmt×Pos:=Xf ((Hh pK).2.1.headD (.ExceptHandler none none [] pU))
noncomputable def Jn:List Expr×Expr×Pos:=sT (bV Pf.2.1 0)
noncomputable def Zm:Str:=(jQ (Jm.1.headD iS)).1
noncomputable def XH:Expr:=(NZ FC.1).1
noncomputable def Zn:Str:=(NZ FC.1).2.1
noncomputable def FD:List Expr:=FC.2.1
noncomputable def Ye:Expr×List Expr×Pos:=nA (SY (bV rR.body 2)).1
noncomputable def Yg:Expr:=Ye.2.1.headD iS
noncomputable def Mo.fa:Mo→Bool
 |.txt _=>false
 |.att _=>true
noncomputable abbrev dk (s:Nm):List D:=s.map λc=>.str [c]
theorem tZ (s:Nm):dl (dk s)=aM s:=List.map_map ..
noncomputable abbrev dw (s:Nm)(w:D):List D:=dk s++[w]
theorem zD (s:Nm)(w:D):dl (dw s w)=aM s++[.dat w]:=by unfold dl dw;rw[List.map_append];exact congrArg (· ++_) (tZ s)
noncomputable abbrev CD (r:Stm)(st:Nat)(m:Mo)(q:List Tok)(al:D)(out:Nm)(ds:List D)(eo:List (Nm×V)):List O:=XF r st (JY m.ct) q [m.x 0,m.x 1,m.x 2]++[CF al m.fa out eo,.dls ds]
section
variable {z:bS}{r:Stm}{st:Nat}{m:Mo}{al:D}{s:Nm}{w:D}
noncomputable abbrev XA (r:Stm)(st:Nat)(m:Mo)(al:D)(s:Nm)(w:D)(eo:List (Nm×V)):List O:=CD r st m [] al [38] (dw s w) eo++[.dls (dk s)]
theorem FE:dX (dl (dw s w)) none (some (-1))=dl (dk s):=by rw[zD,tZ];exact j5 _ _
theorem Uw {eo:List (Nm×V)}{n:Nat}(he:eo=[]∨∃ v,eo=[(tQ,v)])(f:Nat→O):RE z.c rR.names n ⟨14,[],true⟩ (j7 (zA f) s eo) Yg (.dat (.str s)) (j7 (zA f) s eo):=by
 rcases he with rfl|⟨v,rfl⟩
 ·exact z.useE (hs:=[]) (g:=true) rfl trivial (by kernel_rfl)
 ·exact z.useE (hs:=[]) (g:=true) rfl trivial (by kernel_rfl)
theorem Jo (hx:s.length≤20000)(h:y9 s=none):RaiseOk z.c 5 227 [.top 236,.dat (.str s)] (XA r st m al s w []) (XA r st m al s w []):=by
 obtain⟨eo,he,b⟩:=Ur z (f:=λi=>(XA r st m al s w []).getD i .gone) hx h
 refine v4 (c:=z.c) (F:=rR) (X:=⟨14,[],true⟩) (hp1:=j7 (zA λi=>(XA r st m al s w []).getD i .gone) s []) (p:=(.dat .non,XA r st m al s w [])) (fz:=[]) (τ:=[]) (rpos:=(SY (bV rR.body 2)).2) (np:=(jQ Ye.1).2) (cpos:=Ye.2.2) (z.tab 227 rR (f8 (by kernel_rfl))) (by kernel_rfl) (by kernel_rfl) (by kernel_rfl) (by kernel_rfl) b (Uw he _) (by kernel_rfl) rfl (by kernel_rfl) (by kernel_rfl) (by kernel_rfl) ?_
 rcases he with rfl|⟨v,rfl⟩
 ·cases m <;>kernel_rfl
 ·cases m <;>kernel_rfl
theorem Ux (hx:s.length≤19000)(h:y9 s=none):RS z.c l6.names 5 CX (CD r st m [] al [38] (dw s w) []) pK .next (XA r st m al s w [(gO,.dat .non)]):=by
 have e:pK=.Try (.Assign [.Name (Tk.st Zm.cps.toList) (jQ (Jm.1.headD iS)).2] (.Call (.Attribute XH Zn (NZ FC.1).2.2) FD [] FC.2.2) Jm.2.2::((Hh pK).1.drop 1)) [.ExceptHandler (some (.Name (Tk.st HI) (jQ Pf.1).2)) none [.Assign [.Name (Tk.st Zm.cps.toList) (jQ (Jn.1.headD iS)).2] (.Constant .none (SV Jn.2.1).1 (SV Jn.2.1).2) Jn.2.2] Pf.2.2] [] [] (Hh pK).2.2:=by kernel_rfl
 rw[e]
 have h1:RE z.c l6.names 5 CX (CD r st m [] al [38] (dw s w) []) XH (.top 236) (CD r st m [] al [38] (dw s w) []):=z.useE (hs:=[]) (g:=true) rfl trivial (by kernel_rfl)
 have hx':s.length≤20000:=A5 hx (by decide)
 have h3:Ae z.c l6.names 5 CX (CD r st m [] al [38] (dw s w) []) FD [.dat (.str s)] (XA r st m al s w []):=by
  have j:eT z.c 5 (CD r st m [] al [38] (dw s w) []++[.lst (dX (dl (dw s w)) none (some (-1)))]) (.str [] .join) [.ref 13] (.dat (.str s)) (CD r st m [] al [38] (dw s w) []++[.lst (dX (dl (dw s w)) none (some (-1)))]):=dH (congrArg some (FE.trans (tZ s))) hx'
  have h:RE z.c l6.names 5 CX (CD r st m [] al [38] (dw s w) []) (FD.headD XH) (.dat (.str s)) (CD r st m [] al [38] (dw s w) []++[.lst (dX (dl (dw s w)) none (some (-1)))]):=z.useE (hs:=[.bm (.dat (.str s)) (CD r st m [] al [38] (dw s w) []++[.lst (dX (dl (dw s w)) none (some (-1)))])]) (g:=cg [(true,Nat.ble (dl (dw s w)).length lim)]) (aB (li (by rw[zD,A2,eA];exact Nat.succ_le_succ (A5 hx (by decide)))) aG) (an j trivial) (by kernel_rfl)
  have h:=eG (l:=13) (ds:=dk s) h (congrArg some FE)
  exact Eq.mpr (congrArg (λrs=>Ae z.c l6.names 5 CX (CD r st m [] al [38] (dw s w) []) rs [.dat (.str s)] (XA r st m al s w [])) (by kernel_rfl:FD=[FD.headD XH])) (jS h mO)
 exact JB (by kernel_rfl) (by decide) (by kernel_rfl) (λ_ _=>rfl) h1 (((Nl z.c 5 (CD r st m [] al [38] (dw s w) []) (.top 236) Zn.cps.toList).get (by kernel_rfl)).ok (by kernel_rfl)) h3 (Jo hx' h) rfl (by kernel_rfl) (by kernel_rfl) (by kernel_rfl) (by kernel_rfl) (by kernel_rfl) (λ_=>rfl) (λ_ _ _=>rfl)
end
end
section
noncomputable def oF:Nm:=[101,110,116,105,116,121,76,101,110,103,116,104]
noncomputable def TLv (r:Stm)(st:Nat)(cv:V)(qs:List V)(X:List O):List O:=
 [.ins 762 1,.ns [(cZ,.ref 2),(c4,.dat .non),(bD,.dat (.boo false)),(aW,.dat (.lst [])),(d9,.mth st 0),(c6,.dat (.boo false)),(a7,cv),(cJ,.ref 6)],
  .ins 166 3,strE r 2 4 7,.ins 73 5,.ns [(dQ,.dat (.str r.text)),(b5,.dat (.int r.place))],.lst qs,.dls (Bd r.er)]++X
noncomputable def CZ (r:Stm)(st:Nat)(m:Mo)(qs:List V)(al:D)(out:Nm)(k:O)(eo:List (Nm×V))(X:List O):List O:=TLv r st (JY m.ct) qs (UV m.ct)++[CF al m.fa out eo,k]++X
noncomputable def aV (w:Nm):O:=.ns [(n6,.dat (.int 7)),(lC,.dat (.str w))]
noncomputable abbrev nE (p:Nm):List (Nm×V):=[(gO,.dat (.str p)),(oF,.dat (.int p.length))]
noncomputable abbrev nN:List (Nm×V):=[(gO,.dat .non)]
noncomputable abbrev cK (q:Nm)(w:D):List V:=dX (aM q++[.dat w]) none (some (-1))
theorem l7 {q:Nm}{w:D}:cK q w=aM q:=j5 _ _
noncomputable abbrev cT (q:Nm)(k:Nat):List V:=dX (aM q) (some (k:Int)) none
theorem t7 {q:Nm}{k:Nat}(h:k≤q.length):cT q k=aM (q.drop k):=by
 unfold cT
 rw[n5 _ (by rw[eA];exact h)]
 exact List.map_drop.symm
noncomputable def fD (x:Nm):Bool:=bU (.str x) [.str [9],.str [10],.str [12],.str [32],.str [13]]
noncomputable def BI (x:Nm):Tok:=bif fD x then .chr2 x else .chr1 x
section
variable {z:bS}{T:Nm}{E:Nat}{r r1 r2 r3:Stm}{st:Nat}{al:D}{q p val:Nm}{w:D}{d:D}{v:Nm}{c e:Nat}
theorem l8 {n:Nat}{hp:List O}{q:Nm}{w:D}(e:hp[12]? =some (.lst (aM q++[.dat w])))(hl:q.length≤19000):eT z.c n hp (.lst 12 .pop) [] (.dat w) (hp.set 12 (.lst (aM q))):=by
 have h:=x8 (c:=z.c) (n:=n) (hp:=hp) (l:=12) (xs:=aM q++[.dat w]) (x:=.dat w) (by rw[e];rfl) (by rw[A2];show(aM q++[V.dat w])[(aM q).length+1-1]? =_;rw[Nat.add_sub_cancel,List.getElem?_append_right (A7 _),Nat.sub_self];rfl) (li (by rw[A2,eA];exact Nat.succ_le_succ (A5 hl (by decide))))
 rw[show(aM q++[V.dat w]).take ((aM q++[V.dat w]).length-1)=aM q by rw[A2];exact List.take_left]at h
 exact h
set_option tactic.hygienic true in
theorem Jp {n l:Nat}{hp:List O}{xs:List D}{x:D}(e:hp[l]?.bind O.dlE=some xs)(ex:xs[xs.length-1]? =some x)(g:Nat.ble xs.length lim=true):eT z.c n hp (.lst l .pop) [] (.dat x) (hp.set l (.dls (xs.take (xs.length-1)))):=λ_ _ _ _ vals z ⟨_,h⟩ hv=>by
 rw[h,show vals=[]from hv]
 exact⟨.blt _,match z.rel.dls (lV e)with
  |.mk us k I d=>(R2.at (DRs.r2.mp d) ex).elim λy q=>by
   have d2:=DRs.r2.mp d
   have sz:us.toArray.size=xs.length:=List.size_toArray.trans (R2.len d2)
   refine call_meets F.slot_list_pop ⟨_,I,rfl⟩ F.entry_list_pop (F.args_list_pop_1 _) (MeetsSeq.list_pop_last _ us.toArray k y (by rw[sz,List.getElem?_toArray];exact q.1) (by rw[sz];exact bC g)) ⟨I,q9 z (lV e) I (DRs.r2.mpr (R2.take (xs.length-1) d2)) ?_ q.2⟩
   rw[sz,← R2.len d2,← i8,Array.eraseIdxIfInBounds]
   split
   ·simp
   ·rename_i q
    rw[List.size_toArray]at q
    cases us with
    |nil=>rfl
    |cons=>exact absurd (A6 (Nat.sub_lt (Nat.succ_pos _) Nat.one_pos) (A7 _)) q⟩
theorem Mg {n:Nat}{hp:List O}{q:Nm}{w:D}(e:hp[12]? =some (.dls (dw q w)))(hl:q.length≤19000):eT z.c n hp (.lst 12 .pop) [] (.dat w) (hp.set 12 (.dls (dk q))):=by
 have ln:(dk q).length=q.length:=List.length_map ..
 have h:=Jp (z:=z) (n:=n) (hp:=hp) (l:=12) (xs:=dw q w) (x:=w) (by rw[e];rfl) (by rw[A2];show(dw q w)[(dk q).length+1-1]? =_;rw[Nat.add_sub_cancel,List.getElem?_append_right (A7 _),Nat.sub_self];rfl) (li (by rw[A2,ln];exact Nat.succ_le_succ (A5 hl (by decide))))
 rw[show(dw q w).take ((dw q w).length-1)=dk q by rw[A2];exact List.take_left]at h
 exact h
theorem gT {n k:Nat}{hp:List O}{xs:List V}{v:V}(e:hp[12]? =some (.lst xs))(h:xs[k]? =some v)(hk:k≤19000):a9 z.c n hp getItem z.c.VT (.ref 12) (.dat (.int k)) v hp:=eF (xs:=xs) (by show hp[12]?.bind O.lsE=_;rw[e];rfl) (by
 show(match Nat.blt k xs.length with|true=>some k|false=>none).bind (λj=>xs[j]?)=_
 rw[show Nat.blt k xs.length=true from A4 (List.getElem?_eq_some_iff.mp h).1]
 exact h) (A4 (A5 hk (by decide)))
structure NamF (z:bS) (r r1 r2 r3:Stm) (st:Nat) (m:Mo) (al:D) (c:Nat) (q:Nm) (w:D):Prop where
 h1:aT z r (.dat (.str [c])) r1
 hw:RS z.c l6.names 5 CX (CZ r1 st m [] al [38] (.lst (aM [c])) [] []) tX.s .next (CZ r2 st m [] al [38] (.lst (aM q++[.dat w])) [] [])
 h3:cD z r2 (.dat w) r3
 t0:bF c=false
 t1:bU (.str [c]) [.non,.str [60],.str [38]]=false
 t2:∀ ac,al=.str [ac]→nb [ac] [c]=false
 t3:nb [c] [35]=false
 lq:q.length≤16000
structure NamP (z:bS) (q p val:Nm) (e:Nat):Prop where
 hl:CallOk z.c 5 227 [.top 236,.dat (.str q)] [] (.dat (.str p)) []
 he:sQ p (-1)=some e
 hv:lk (match aR with|.dct es=>es|_=>[]) p=some (.str val)
 le:p.length≤q.length
 vl:val.length≤10
section
variable {m:Mo}
theorem NamF.lq2 (F:NamF z r r1 r2 r3 st m al c q w):q.length≤20000:=A5 F.lq (by decide)
theorem NamF.g1 (F:NamF z r r1 r2 r3 st m al c q w):Nat.ble (aM q++[V.dat w]).length lim=true:=li (by rw[A2,eA];exact Nat.succ_le_succ (A5 F.lq (by decide)))
theorem NamF.g2 (F:NamF z r r1 r2 r3 st m al c q w):Nat.ble (aM q).length lim=true:=li (by rw[eA];exact F.lq2)
theorem NamF.g3 (F:NamF z r r1 r2 r3 st m al c q w):Nat.ble (([38]:Nm).length+q.length) lim=true:=eQ (A7 1) F.lq rfl
theorem NamF.g4 (F:NamF z r r1 r2 r3 st m al c q w)(hv:v.length≤1000):Nat.ble (v.length+([38]++q).length) lim=true:=eQ hv (n7 (A7 1) F.lq) rfl
theorem NamP.g1 (N:NamP z q p val e)(F:q.length≤16000):Nat.ble p.length lim=true:=li (A5 N.le (A5 F (by decide)))
theorem Mh (F:NamF z r r1 r2 r3 st m al c q w){k:Nat}:(q.drop k).length≤16000:=A5 (List.length_drop▸Nat.sub_le _ _) F.lq
theorem NamP.g2 (N:NamP z q p val e)(F:NamF z r r1 r2 r3 st m al c q w):Nat.ble (val.length+(q.drop p.length).length) lim=true:=eQ N.vl (Mh F) rfl
theorem NamP.g3 (N:NamP z q p val e)(F:NamF z r r1 r2 r3 st m al c q w)(hv:v.length≤1000):Nat.ble (v.length+(val++q.drop p.length).length) lim=true:=eQ hv (n7 N.vl (Mh F)) rfl
end
variable {ac u:Nat}
end
end
section
noncomputable def aA:Nm:=[110,97,109,101,100,45,101,110,116,105,116,121,45,119,105,116,104,111,117,116,45,115,101,109,105,99,111,108,111,110]
noncomputable def aF:Nm:=[101,120,112,101,99,116,101,100,45,110,97,109,101,100,45,101,110,116,105,116,121]
section
variable {z:bS}{T:Nm}{E:Nat}{r r1 r2 r3:Stm}{st:Nat}{al:D}{q p val:Nm}{w:D}{d:D}{v:Nm}{c e:Nat}{ac u:Nat}
theorem Jq (F:NamF z r r1 r2 r3 st (.txt d) .non c q w)(N:NamP z q p val e)(hb:(!nb [e] [59])=false){b:Bool}(hs:fD (val++q.drop p.length)=b):CallOk z.c 6 283 [.ref 0] (TL r st (.dead true d) []) (.dat .non) (TL r3 st (.dead true d) [bif b then .chr2 (val++q.drop p.length)else .chr1 (val++q.drop p.length)]):=
 z.use (hs:=[aU r1 (.dat (.str [c])),.tst 235011042 false,(.tst 235046077 false),(.tst 237013032 false),.stm 251 .next (CZ r2 st (.txt d) [] .non [38] (.lst (aM q++[V.dat w])) [] []),.bm (.dat (.str q)) (CZ r2 st (.txt d) [] .non [38] (.lst (aM q++[V.dat w])) [] [.lst (cK q w)]),.cal 227 5 [] (.dat (.str p)) [],.sub 261019033 (.dat (.str [e])),.tst 261019040 false,.sub 263019033 (.dat (.str [e])),.tst 263019040 false,.sub 267029049 (.dat (.str val)),.bm (.dat w) (CZ r2 st (.txt d) [] .non val (.lst (aM q)) (nE p) [.lst (cK q w)]),dF r3,.bm (.dat (.str (q.drop p.length))) (CZ r3 st (.txt d) [] .non val (.lst (aM q)) (nE p) [.lst (cK q w),.lst (cT q p.length)]),.tst 277015040 b]) (o:=.fz [15] []) (g:=cg [(b,fD (val++q.drop p.length)),(true,Nat.ble ((val:Nm).length+(q.drop p.length).length) lim),(true,Nat.ble (aM q).length lim),(false,!nb [e] [59]),(false,!nb [e] [59]),(true,Nat.ble (p:Nm).length lim),(true,Nat.ble (aM q++[V.dat w]).length lim),(false,nb [c] [35]),(false,bU (.str [c]) [.non,.str [60],.str [38]]),(false,bF c)]) (ob:=eT z.c 5 (CZ r3 st (.txt d) [] .non val (.lst (aM q)) (nE p) [.lst (cK q w),.lst (cT q p.length)]) (.str [] .join) [.ref 14] (.dat (.str (q.drop p.length))) (CZ r3 st (.txt d) [] .non val (.lst (aM q)) (nE p) [.lst (cK q w),.lst (cT q p.length)])∧cD z r2 (.dat w) r3∧eT z.c 5 (CZ r2 st (.txt d) [] .non val (.lst (aM q++[V.dat w])) (nE p) [.lst (cK q w)]) (.lst 12 .pop) [] (.dat w) (CZ r2 st (.txt d) [] .non val (.lst (aM q)) (nE p) [.lst (cK q w)])∧(∀ hp,a9 z.c 5 hp getItem z.c.VT (.dat aR) (.dat (.str p)) (.dat (.str val)) hp)∧(∀ hp,a9 z.c 5 hp getItem z.c.VT (.dat (.str p)) (.dat (.int (-1))) (.dat (.str [e])) hp)∧(∀ hp,a9 z.c 5 hp getItem z.c.VT (.dat (.str p)) (.dat (.int (-1))) (.dat (.str [e])) hp)∧CallOk z.c 5 227 [.top 236,.dat (.str q)] [] (.dat (.str p)) []∧eT z.c 5 (CZ r2 st (.txt d) [] .non [38] (.lst (aM q++[V.dat w])) [] [.lst (cK q w)]) (.str [] .join) [.ref 13] (.dat (.str q)) (CZ r2 st (.txt d) [] .non [38] (.lst (aM q++[V.dat w])) [] [.lst (cK q w)])∧RS z.c l6.names 5 CX (CZ r1 st (.txt d) [] .non [38] (.lst (aM [c])) [] []) tX.s .next (CZ r2 st (.txt d) [] .non [38] (.lst (aM q++[V.dat w])) [] [])∧aT z r (.dat (.str [c])) r1∧True) (aB hs (aB (N.g2 F) (aB F.g2 (aB hb (aB hb (aB (N.g1 F.lq) (aB F.g1 (aB F.t3 (aB F.t1 (aB F.t0 aG)))))))))) ⟨(dH (congrArg some (t7 N.le)) (A5 (List.length_drop▸Nat.sub_le _ _) F.lq2)),F.h3,(l8 rfl (A5 F.lq (by decide))),(λ_=>gG N.hv),(aN N.he rfl),(aN N.he rfl),N.hl,(dH (congrArg some l7) F.lq2),F.hw,F.h1,trivial⟩ (by cases b <;>kernel_rfl)
theorem Jr (F:NamF z r r1 r2 r3 st (.txt d) .non c q w)(N:NamP z q p val e)(hb:(!nb [e] [59])=true){b:Bool}(hs:fD (val++q.drop p.length)=b):CallOk z.c 6 283 [.ref 0] (TL r st (.dead true d) []) (.dat .non) (TL r3 st (.dead true d) [.err aA,bif b then .chr2 (val++q.drop p.length)else .chr1 (val++q.drop p.length)]):=
 z.use (hs:=[aU r1 (.dat (.str [c])),.tst 235011042 false,(.tst 235046077 false),(.tst 237013032 false),.stm 251 .next (CZ r2 st (.txt d) [] .non [38] (.lst (aM q++[V.dat w])) [] []),.bm (.dat (.str q)) (CZ r2 st (.txt d) [] .non [38] (.lst (aM q++[V.dat w])) [] [.lst (cK q w)]),.cal 227 5 [] (.dat (.str p)) [],.sub 261019033 (.dat (.str [e])),.tst 261019040 true,.sub 263019033 (.dat (.str [e])),.tst 263019040 true,.sub 267029049 (.dat (.str val)),.bm (.dat w) (CZ r2 st (.txt d) [.ref 14] .non val (.lst (aM q)) (nE p) [.lst (cK q w),aV aA]),dF r3,.bm (.dat (.str (q.drop p.length))) (CZ r3 st (.txt d) [.ref 14] .non val (.lst (aM q)) (nE p) [.lst (cK q w),aV aA,.lst (cT q p.length)]),.tst 277015040 b]) (o:=.fz [14,16] []) (g:=cg [(b,fD (val++q.drop p.length)),(true,Nat.ble ((val:Nm).length+(q.drop p.length).length) lim),(true,Nat.ble (aM q).length lim),(true,!nb [e] [59]),(true,!nb [e] [59]),(true,Nat.ble (p:Nm).length lim),(true,Nat.ble (aM q++[V.dat w]).length lim),(false,nb [c] [35]),(false,bU (.str [c]) [.non,.str [60],.str [38]]),(false,bF c)]) (ob:=eT z.c 5 (CZ r3 st (.txt d) [.ref 14] .non val (.lst (aM q)) (nE p) [.lst (cK q w),aV aA,.lst (cT q p.length)]) (.str [] .join) [.ref 15] (.dat (.str (q.drop p.length))) (CZ r3 st (.txt d) [.ref 14] .non val (.lst (aM q)) (nE p) [.lst (cK q w),aV aA,.lst (cT q p.length)])∧cD z r2 (.dat w) r3∧eT z.c 5 (CZ r2 st (.txt d) [.ref 14] .non val (.lst (aM q++[V.dat w])) (nE p) [.lst (cK q w),aV aA]) (.lst 12 .pop) [] (.dat w) (CZ r2 st (.txt d) [.ref 14] .non val (.lst (aM q)) (nE p) [.lst (cK q w),aV aA])∧(∀ hp,a9 z.c 5 hp getItem z.c.VT (.dat aR) (.dat (.str p)) (.dat (.str val)) hp)∧(∀ hp,a9 z.c 5 hp getItem z.c.VT (.dat (.str p)) (.dat (.int (-1))) (.dat (.str [e])) hp)∧(∀ hp,a9 z.c 5 hp getItem z.c.VT (.dat (.str p)) (.dat (.int (-1))) (.dat (.str [e])) hp)∧CallOk z.c 5 227 [.top 236,.dat (.str q)] [] (.dat (.str p)) []∧eT z.c 5 (CZ r2 st (.txt d) [] .non [38] (.lst (aM q++[V.dat w])) [] [.lst (cK q w)]) (.str [] .join) [.ref 13] (.dat (.str q)) (CZ r2 st (.txt d) [] .non [38] (.lst (aM q++[V.dat w])) [] [.lst (cK q w)])∧RS z.c l6.names 5 CX (CZ r1 st (.txt d) [] .non [38] (.lst (aM [c])) [] []) tX.s .next (CZ r2 st (.txt d) [] .non [38] (.lst (aM q++[V.dat w])) [] [])∧aT z r (.dat (.str [c])) r1∧True) (aB hs (aB (N.g2 F) (aB F.g2 (aB hb (aB hb (aB (N.g1 F.lq) (aB F.g1 (aB F.t3 (aB F.t1 (aB F.t0 aG)))))))))) ⟨(dH (congrArg some (t7 N.le)) (A5 (List.length_drop▸Nat.sub_le _ _) F.lq2)),F.h3,(l8 rfl (A5 F.lq (by decide))),(λ_=>gG N.hv),(aN N.he rfl),(aN N.he rfl),N.hl,(dH (congrArg some l7) F.lq2),F.hw,F.h1,trivial⟩ (by cases b <;>kernel_rfl)
theorem Js (F:NamF z r r1 r2 r3 st (.txt d) .non c q w)(hx:RS z.c l6.names 5 CX (CZ r2 st (.txt d) [] .non [38] (.dls (dw q w)) [] []) pK .next (CZ r2 st (.txt d) [] .non [38] (.dls (dw q w)) nN [.dls (dk q)])):CallOk z.c 6 283 [.ref 0] (TL r st (.dead true d) []) (.dat .non) (TL r3 st (.dead true d) [.err aF,.chr1 ([38]++q)]):=
 z.use (hs:=[aU r1 (.dat (.str [c])),.tst 235011042 false,(.tst 235046077 false),(.tst 237013032 false),.stm 251 .next (CZ r2 st (.txt d) [] .non [38] (.dls (dw q w)) [] []),.stm 255 .next (CZ r2 st (.txt d) [] .non [38] (.dls (dw q w)) nN [.dls (dk q)]),.led 272 (CZ r2 st (.txt d) [.ref 14] .non [38] (.dls (dw q w)) nN [.dls (dk q),aV aF]),.bm (.dat w) (CZ r2 st (.txt d) [.ref 14] .non [38] (.dls (dk q)) nN [.dls (dk q),aV aF]),dF r3,.bm (.dat (.str q)) (CZ r3 st (.txt d) [.ref 14] .non [38] (.dls (dk q)) nN [.dls (dk q),aV aF]),.tst 277015040 false]) (o:=.fz [14,15] []) (g:=cg [(false,fD ([38]++q)),(true,Nat.ble (([38]:Nm).length+(q:Nm).length) lim),(false,nb [c] [35]),(false,bU (.str [c]) [.non,.str [60],.str [38]]),(false,bF c)]) (ob:=eT z.c 5 (CZ r3 st (.txt d) [.ref 14] .non [38] (.dls (dk q)) nN [.dls (dk q),aV aF]) (.str [] .join) [.ref 12] (.dat (.str q)) (CZ r3 st (.txt d) [.ref 14] .non [38] (.dls (dk q)) nN [.dls (dk q),aV aF])∧cD z r2 (.dat w) r3∧eT z.c 5 (CZ r2 st (.txt d) [.ref 14] .non [38] (.dls (dw q w)) nN [.dls (dk q),aV aF]) (.lst 12 .pop) [] (.dat w) (CZ r2 st (.txt d) [.ref 14] .non [38] (.dls (dk q)) nN [.dls (dk q),aV aF])∧(CZ r2 st (.txt d) [.ref 14] .non [38] (.dls (dw q w)) nN [.dls (dk q),aV aF])=(CZ r2 st (.txt d) [.ref 14] .non [38] (.dls (dw q w)) nN [.dls (dk q),aV aF])∧RS z.c l6.names 5 CX (CZ r2 st (.txt d) [] .non [38] (.dls (dw q w)) [] []) pK .next (CZ r2 st (.txt d) [] .non [38] (.dls (dw q w)) nN [.dls (dk q)])∧RS z.c l6.names 5 CX (CZ r1 st (.txt d) [] .non [38] (.lst (aM [c])) [] []) tX.s .next (CZ r2 st (.txt d) [] .non [38] (.dls (dw q w)) [] [])∧aT z r (.dat (.str [c])) r1∧True) (aB rfl (aB F.g3 (aB F.t3 (aB F.t1 (aB F.t0 aG))))) ⟨(dH (congrArg some (tZ q)) F.lq2),F.h3,(Mg rfl (A5 F.lq (by decide))),rfl,hx,(eG (l:=12) (ds:=dw q w) F.hw (congrArg some (zD q w).symm)),F.h1,trivial⟩ (by kernel_rfl)
theorem Jt (F:NamF z r r1 r2 r3 st (.att v) (.str [ac]) c q w)(N:NamP z q p val e)(hv:v.length≤1000)(hb:(!nb [e] [59])=false):CallOk z.c 6 283 [.ref 0,.dat (.str [ac]),.dat (.boo true)] (TL r st (.at_ v) []) (.dat .non) (TL r3 st (.at_ (v++(val++q.drop p.length))) []):=
 z.use (hs:=[aU r1 (.dat (.str [c])),.tst 235011042 false,(.tst 235046077 false),.tst 235110137 false,(.tst 237013032 false),.stm 251 .next (CZ r2 st (.att v) [] (.str [ac]) [38] (.lst (aM q++[V.dat w])) [] []),.bm (.dat (.str q)) (CZ r2 st (.att v) [] (.str [ac]) [38] (.lst (aM q++[V.dat w])) [] [.lst (cK q w)]),.cal 227 5 [] (.dat (.str p)) [],.sub 261019033 (.dat (.str [e])),.tst 261019040 false,.sub 263019033 (.dat (.str [e])),.tst 263019040 false,.sub 267029049 (.dat (.str val)),.bm (.dat w) (CZ r2 st (.att v) [] (.str [ac]) val (.lst (aM q)) (nE p) [.lst (cK q w)]),dF r3,.bm (.dat (.str (q.drop p.length))) (CZ r3 st (.att v) [] (.str [ac]) val (.lst (aM q)) (nE p) [.lst (cK q w),.lst (cT q p.length)])]) (o:=.fz [] []) (g:=cg [(true,Nat.ble ((v:Nm).length+((val++q.drop p.length):Nm).length) lim),(true,Nat.ble ((val:Nm).length+(q.drop p.length).length) lim),(true,Nat.ble (aM q).length lim),(false,!nb [e] [59]),(false,!nb [e] [59]),(true,Nat.ble (p:Nm).length lim),(true,Nat.ble (aM q++[V.dat w]).length lim),(false,nb [c] [35]),(false,nb [ac] [c]),(false,bU (.str [c]) [.non,.str [60],.str [38]]),(false,bF c)]) (ob:=eT z.c 5 (CZ r3 st (.att v) [] (.str [ac]) val (.lst (aM q)) (nE p) [.lst (cK q w),.lst (cT q p.length)]) (.str [] .join) [.ref 14] (.dat (.str (q.drop p.length))) (CZ r3 st (.att v) [] (.str [ac]) val (.lst (aM q)) (nE p) [.lst (cK q w),.lst (cT q p.length)])∧cD z r2 (.dat w) r3∧eT z.c 5 (CZ r2 st (.att v) [] (.str [ac]) val (.lst (aM q++[V.dat w])) (nE p) [.lst (cK q w)]) (.lst 12 .pop) [] (.dat w) (CZ r2 st (.att v) [] (.str [ac]) val (.lst (aM q)) (nE p) [.lst (cK q w)])∧(∀ hp,a9 z.c 5 hp getItem z.c.VT (.dat aR) (.dat (.str p)) (.dat (.str val)) hp)∧(∀ hp,a9 z.c 5 hp getItem z.c.VT (.dat (.str p)) (.dat (.int (-1))) (.dat (.str [e])) hp)∧(∀ hp,a9 z.c 5 hp getItem z.c.VT (.dat (.str p)) (.dat (.int (-1))) (.dat (.str [e])) hp)∧CallOk z.c 5 227 [.top 236,.dat (.str q)] [] (.dat (.str p)) []∧eT z.c 5 (CZ r2 st (.att v) [] (.str [ac]) [38] (.lst (aM q++[V.dat w])) [] [.lst (cK q w)]) (.str [] .join) [.ref 13] (.dat (.str q)) (CZ r2 st (.att v) [] (.str [ac]) [38] (.lst (aM q++[V.dat w])) [] [.lst (cK q w)])∧RS z.c l6.names 5 CX (CZ r1 st (.att v) [] (.str [ac]) [38] (.lst (aM [c])) [] []) tX.s .next (CZ r2 st (.att v) [] (.str [ac]) [38] (.lst (aM q++[V.dat w])) [] [])∧aT z r (.dat (.str [c])) r1∧True) (aB (N.g3 F hv) (aB (N.g2 F) (aB F.g2 (aB hb (aB hb (aB (N.g1 F.lq) (aB F.g1 (aB F.t3 (aB (F.t2 ac rfl) (aB F.t1 (aB F.t0 aG))))))))))) ⟨(dH (congrArg some (t7 N.le)) (A5 (List.length_drop▸Nat.sub_le _ _) F.lq2)),F.h3,(l8 rfl (A5 F.lq (by decide))),(λ_=>gG N.hv),(aN N.he rfl),(aN N.he rfl),N.hl,(dH (congrArg some l7) F.lq2),F.hw,F.h1,trivial⟩ (by kernel_rfl)
theorem Pg (F:NamF z r r1 r2 r3 st (.att v) (.str [ac]) c q w)(N:NamP z q p val e)(hv:v.length≤1000)(hb:(!nb [e] [59])=true)(hu:(aM q++[V.dat w])[p.length]? =some (.dat (.str [u])))(hlt:fM u=true):CallOk z.c 6 283 [.ref 0,.dat (.str [ac]),.dat (.boo true)] (TL r st (.at_ v) []) (.dat .non) (TL r3 st (.at_ (v++([38]++q))) [.err aA]):=
 z.use (hs:=[aU r1 (.dat (.str [c])),.tst 235011042 false,(.tst 235046077 false),.tst 235110137 false,(.tst 237013032 false),.stm 251 .next (CZ r2 st (.att v) [] (.str [ac]) [38] (.lst (aM q++[V.dat w])) [] []),.bm (.dat (.str q)) (CZ r2 st (.att v) [] (.str [ac]) [38] (.lst (aM q++[V.dat w])) [] [.lst (cK q w)]),.cal 227 5 [] (.dat (.str p)) [],.sub 261019033 (.dat (.str [e])),.tst 261019040 true,.sub 263019033 (.dat (.str [e])),.tst 263019040 true,.itm 263064087 (.dat (.str [u])),.tst 263064103 true,.bm (.dat w) (CZ r2 st (.att v) [.ref 14] (.str [ac]) [38] (.lst (aM q)) (nE p) [.lst (cK q w),aV aA]),dF r3,.bm (.dat (.str q)) (CZ r3 st (.att v) [.ref 14] (.str [ac]) [38] (.lst (aM q)) (nE p) [.lst (cK q w),aV aA])]) (o:=.fz [14] []) (g:=cg [(true,Nat.ble ((v:Nm).length+(([38]++q):Nm).length) lim),(true,Nat.ble (([38]:Nm).length+(q:Nm).length) lim),(true,fM u),(true,!nb [e] [59]),(true,!nb [e] [59]),(true,Nat.ble (p:Nm).length lim),(true,Nat.ble (aM q++[V.dat w]).length lim),(false,nb [c] [35]),(false,nb [ac] [c]),(false,bU (.str [c]) [.non,.str [60],.str [38]]),(false,bF c)]) (ob:=eT z.c 5 (CZ r3 st (.att v) [.ref 14] (.str [ac]) [38] (.lst (aM q)) (nE p) [.lst (cK q w),aV aA]) (.str [] .join) [.ref 12] (.dat (.str q)) (CZ r3 st (.att v) [.ref 14] (.str [ac]) [38] (.lst (aM q)) (nE p) [.lst (cK q w),aV aA])∧cD z r2 (.dat w) r3∧eT z.c 5 (CZ r2 st (.att v) [.ref 14] (.str [ac]) [38] (.lst (aM q++[V.dat w])) (nE p) [.lst (cK q w),aV aA]) (.lst 12 .pop) [] (.dat w) (CZ r2 st (.att v) [.ref 14] (.str [ac]) [38] (.lst (aM q)) (nE p) [.lst (cK q w),aV aA])∧a9 z.c 5 (CZ r2 st (.att v) [.ref 14] (.str [ac]) [38] (.lst (aM q++[V.dat w])) (nE p) [.lst (cK q w),aV aA]) getItem z.c.VT (.ref 12) (.dat (.int p.length)) (.dat (.str [u])) (CZ r2 st (.att v) [.ref 14] (.str [ac]) [38] (.lst (aM q++[V.dat w])) (nE p) [.lst (cK q w),aV aA])∧(∀ hp,a9 z.c 5 hp getItem z.c.VT (.dat (.str p)) (.dat (.int (-1))) (.dat (.str [e])) hp)∧(∀ hp,a9 z.c 5 hp getItem z.c.VT (.dat (.str p)) (.dat (.int (-1))) (.dat (.str [e])) hp)∧CallOk z.c 5 227 [.top 236,.dat (.str q)] [] (.dat (.str p)) []∧eT z.c 5 (CZ r2 st (.att v) [] (.str [ac]) [38] (.lst (aM q++[V.dat w])) [] [.lst (cK q w)]) (.str [] .join) [.ref 13] (.dat (.str q)) (CZ r2 st (.att v) [] (.str [ac]) [38] (.lst (aM q++[V.dat w])) [] [.lst (cK q w)])∧RS z.c l6.names 5 CX (CZ r1 st (.att v) [] (.str [ac]) [38] (.lst (aM [c])) [] []) tX.s .next (CZ r2 st (.att v) [] (.str [ac]) [38] (.lst (aM q++[V.dat w])) [] [])∧aT z r (.dat (.str [c])) r1∧True) (aB (F.g4 hv) (aB F.g3 (aB hlt (aB hb (aB hb (aB (N.g1 F.lq) (aB F.g1 (aB F.t3 (aB (F.t2 ac rfl) (aB F.t1 (aB F.t0 aG))))))))))) ⟨(dH rfl F.lq2),F.h3,(l8 rfl (A5 F.lq (by decide))),(gT rfl hu (A5 N.le (A5 F.lq (by decide)))),(aN N.he rfl),(aN N.he rfl),N.hl,(dH (congrArg some l7) F.lq2),F.hw,F.h1,trivial⟩ (by kernel_rfl)
theorem Ph (F:NamF z r r1 r2 r3 st (.att v) (.str [ac]) c q w)(N:NamP z q p val e)(hv:v.length≤1000)(hb:(!nb [e] [59])=true)(hu:(aM q++[V.dat w])[p.length]? =some (.dat (.str [u])))(hlf:fM u=false)(hdt:aZ false u=true):CallOk z.c 6 283 [.ref 0,.dat (.str [ac]),.dat (.boo true)] (TL r st (.at_ v) []) (.dat .non) (TL r3 st (.at_ (v++([38]++q))) [.err aA]):=
 z.use (hs:=[aU r1 (.dat (.str [c])),.tst 235011042 false,(.tst 235046077 false),.tst 235110137 false,(.tst 237013032 false),.stm 251 .next (CZ r2 st (.att v) [] (.str [ac]) [38] (.lst (aM q++[V.dat w])) [] []),.bm (.dat (.str q)) (CZ r2 st (.att v) [] (.str [ac]) [38] (.lst (aM q++[V.dat w])) [] [.lst (cK q w)]),.cal 227 5 [] (.dat (.str p)) [],.sub 261019033 (.dat (.str [e])),.tst 261019040 true,.sub 263019033 (.dat (.str [e])),.tst 263019040 true,.itm 263064087 (.dat (.str [u])),.tst 263064103 false,.itm 263107130 (.dat (.str [u])),.tst 263107140 true,.bm (.dat w) (CZ r2 st (.att v) [.ref 14] (.str [ac]) [38] (.lst (aM q)) (nE p) [.lst (cK q w),aV aA]),dF r3,.bm (.dat (.str q)) (CZ r3 st (.att v) [.ref 14] (.str [ac]) [38] (.lst (aM q)) (nE p) [.lst (cK q w),aV aA])]) (o:=.fz [14] []) (g:=cg [(true,Nat.ble ((v:Nm).length+(([38]++q):Nm).length) lim),(true,Nat.ble (([38]:Nm).length+(q:Nm).length) lim),(true,aZ false u),(false,fM u),(true,!nb [e] [59]),(true,!nb [e] [59]),(true,Nat.ble (p:Nm).length lim),(true,Nat.ble (aM q++[V.dat w]).length lim),(false,nb [c] [35]),(false,nb [ac] [c]),(false,bU (.str [c]) [.non,.str [60],.str [38]]),(false,bF c)]) (ob:=eT z.c 5 (CZ r3 st (.att v) [.ref 14] (.str [ac]) [38] (.lst (aM q)) (nE p) [.lst (cK q w),aV aA]) (.str [] .join) [.ref 12] (.dat (.str q)) (CZ r3 st (.att v) [.ref 14] (.str [ac]) [38] (.lst (aM q)) (nE p) [.lst (cK q w),aV aA])∧cD z r2 (.dat w) r3∧eT z.c 5 (CZ r2 st (.att v) [.ref 14] (.str [ac]) [38] (.lst (aM q++[V.dat w])) (nE p) [.lst (cK q w),aV aA]) (.lst 12 .pop) [] (.dat w) (CZ r2 st (.att v) [.ref 14] (.str [ac]) [38] (.lst (aM q)) (nE p) [.lst (cK q w),aV aA])∧a9 z.c 5 (CZ r2 st (.att v) [.ref 14] (.str [ac]) [38] (.lst (aM q++[V.dat w])) (nE p) [.lst (cK q w),aV aA]) getItem z.c.VT (.ref 12) (.dat (.int p.length)) (.dat (.str [u])) (CZ r2 st (.att v) [.ref 14] (.str [ac]) [38] (.lst (aM q++[V.dat w])) (nE p) [.lst (cK q w),aV aA])∧a9 z.c 5 (CZ r2 st (.att v) [.ref 14] (.str [ac]) [38] (.lst (aM q++[V.dat w])) (nE p) [.lst (cK q w),aV aA]) getItem z.c.VT (.ref 12) (.dat (.int p.length)) (.dat (.str [u])) (CZ r2 st (.att v) [.ref 14] (.str [ac]) [38] (.lst (aM q++[V.dat w])) (nE p) [.lst (cK q w),aV aA])∧(∀ hp,a9 z.c 5 hp getItem z.c.VT (.dat (.str p)) (.dat (.int (-1))) (.dat (.str [e])) hp)∧(∀ hp,a9 z.c 5 hp getItem z.c.VT (.dat (.str p)) (.dat (.int (-1))) (.dat (.str [e])) hp)∧CallOk z.c 5 227 [.top 236,.dat (.str q)] [] (.dat (.str p)) []∧eT z.c 5 (CZ r2 st (.att v) [] (.str [ac]) [38] (.lst (aM q++[V.dat w])) [] [.lst (cK q w)]) (.str [] .join) [.ref 13] (.dat (.str q)) (CZ r2 st (.att v) [] (.str [ac]) [38] (.lst (aM q++[V.dat w])) [] [.lst (cK q w)])∧RS z.c l6.names 5 CX (CZ r1 st (.att v) [] (.str [ac]) [38] (.lst (aM [c])) [] []) tX.s .next (CZ r2 st (.att v) [] (.str [ac]) [38] (.lst (aM q++[V.dat w])) [] [])∧aT z r (.dat (.str [c])) r1∧True) (aB (F.g4 hv) (aB F.g3 (aB hdt (aB hlf (aB hb (aB hb (aB (N.g1 F.lq) (aB F.g1 (aB F.t3 (aB (F.t2 ac rfl) (aB F.t1 (aB F.t0 aG)))))))))))) ⟨(dH rfl F.lq2),F.h3,(l8 rfl (A5 F.lq (by decide))),(gT rfl hu (A5 N.le (A5 F.lq (by decide)))),(gT rfl hu (A5 N.le (A5 F.lq (by decide)))),(aN N.he rfl),(aN N.he rfl),N.hl,(dH (congrArg some l7) F.lq2),F.hw,F.h1,trivial⟩ (by kernel_rfl)
theorem Uy (F:NamF z r r1 r2 r3 st (.att v) (.str [ac]) c q w)(N:NamP z q p val e)(hv:v.length≤1000)(hb:(!nb [e] [59])=true)(hu:(aM q++[V.dat w])[p.length]? =some (.dat (.str [u])))(hlf:fM u=false)(hdf:aZ false u=false)(het:nb [u] [61]=true):CallOk z.c 6 283 [.ref 0,.dat (.str [ac]),.dat (.boo true)] (TL r st (.at_ v) []) (.dat .non) (TL r3 st (.at_ (v++([38]++q))) [.err aA]):=
 z.use (hs:=[aU r1 (.dat (.str [c])),.tst 235011042 false,(.tst 235046077 false),.tst 235110137 false,(.tst 237013032 false),.stm 251 .next (CZ r2 st (.att v) [] (.str [ac]) [38] (.lst (aM q++[V.dat w])) [] []),.bm (.dat (.str q)) (CZ r2 st (.att v) [] (.str [ac]) [38] (.lst (aM q++[V.dat w])) [] [.lst (cK q w)]),.cal 227 5 [] (.dat (.str p)) [],.sub 261019033 (.dat (.str [e])),.tst 261019040 true,.sub 263019033 (.dat (.str [e])),.tst 263019040 true,.itm 263064087 (.dat (.str [u])),.tst 263064103 false,.itm 263107130 (.dat (.str [u])),.tst 263107140 false,.itm 263144167 (.dat (.str [u])),.tst 263144174 true,.bm (.dat w) (CZ r2 st (.att v) [.ref 14] (.str [ac]) [38] (.lst (aM q)) (nE p) [.lst (cK q w),aV aA]),dF r3,.bm (.dat (.str q)) (CZ r3 st (.att v) [.ref 14] (.str [ac]) [38] (.lst (aM q)) (nE p) [.lst (cK q w),aV aA])]) (o:=.fz [14] []) (g:=cg [(true,Nat.ble ((v:Nm).length+(([38]++q):Nm).length) lim),(true,Nat.ble (([38]:Nm).length+(q:Nm).length) lim),(true,nb [u] [61]),(false,aZ false u),(false,fM u),(true,!nb [e] [59]),(true,!nb [e] [59]),(true,Nat.ble (p:Nm).length lim),(true,Nat.ble (aM q++[V.dat w]).length lim),(false,nb [c] [35]),(false,nb [ac] [c]),(false,bU (.str [c]) [.non,.str [60],.str [38]]),(false,bF c)]) (ob:=eT z.c 5 (CZ r3 st (.att v) [.ref 14] (.str [ac]) [38] (.lst (aM q)) (nE p) [.lst (cK q w),aV aA]) (.str [] .join) [.ref 12] (.dat (.str q)) (CZ r3 st (.att v) [.ref 14] (.str [ac]) [38] (.lst (aM q)) (nE p) [.lst (cK q w),aV aA])∧cD z r2 (.dat w) r3∧eT z.c 5 (CZ r2 st (.att v) [.ref 14] (.str [ac]) [38] (.lst (aM q++[V.dat w])) (nE p) [.lst (cK q w),aV aA]) (.lst 12 .pop) [] (.dat w) (CZ r2 st (.att v) [.ref 14] (.str [ac]) [38] (.lst (aM q)) (nE p) [.lst (cK q w),aV aA])∧a9 z.c 5 (CZ r2 st (.att v) [.ref 14] (.str [ac]) [38] (.lst (aM q++[V.dat w])) (nE p) [.lst (cK q w),aV aA]) getItem z.c.VT (.ref 12) (.dat (.int p.length)) (.dat (.str [u])) (CZ r2 st (.att v) [.ref 14] (.str [ac]) [38] (.lst (aM q++[V.dat w])) (nE p) [.lst (cK q w),aV aA])∧a9 z.c 5 (CZ r2 st (.att v) [.ref 14] (.str [ac]) [38] (.lst (aM q++[V.dat w])) (nE p) [.lst (cK q w),aV aA]) getItem z.c.VT (.ref 12) (.dat (.int p.length)) (.dat (.str [u])) (CZ r2 st (.att v) [.ref 14] (.str [ac]) [38] (.lst (aM q++[V.dat w])) (nE p) [.lst (cK q w),aV aA])∧a9 z.c 5 (CZ r2 st (.att v) [.ref 14] (.str [ac]) [38] (.lst (aM q++[V.dat w])) (nE p) [.lst (cK q w),aV aA]) getItem z.c.VT (.ref 12) (.dat (.int p.length)) (.dat (.str [u])) (CZ r2 st (.att v) [.ref 14] (.str [ac]) [38] (.lst (aM q++[V.dat w])) (nE p) [.lst (cK q w),aV aA])∧(∀ hp,a9 z.c 5 hp getItem z.c.VT (.dat (.str p)) (.dat (.int (-1))) (.dat (.str [e])) hp)∧(∀ hp,a9 z.c 5 hp getItem z.c.VT (.dat (.str p)) (.dat (.int (-1))) (.dat (.str [e])) hp)∧CallOk z.c 5 227 [.top 236,.dat (.str q)] [] (.dat (.str p)) []∧eT z.c 5 (CZ r2 st (.att v) [] (.str [ac]) [38] (.lst (aM q++[V.dat w])) [] [.lst (cK q w)]) (.str [] .join) [.ref 13] (.dat (.str q)) (CZ r2 st (.att v) [] (.str [ac]) [38] (.lst (aM q++[V.dat w])) [] [.lst (cK q w)])∧RS z.c l6.names 5 CX (CZ r1 st (.att v) [] (.str [ac]) [38] (.lst (aM [c])) [] []) tX.s .next (CZ r2 st (.att v) [] (.str [ac]) [38] (.lst (aM q++[V.dat w])) [] [])∧aT z r (.dat (.str [c])) r1∧True) (aB (F.g4 hv) (aB F.g3 (aB het (aB hdf (aB hlf (aB hb (aB hb (aB (N.g1 F.lq) (aB F.g1 (aB F.t3 (aB (F.t2 ac rfl) (aB F.t1 (aB F.t0 aG))))))))))))) ⟨(dH rfl F.lq2),F.h3,(l8 rfl (A5 F.lq (by decide))),(gT rfl hu (A5 N.le (A5 F.lq (by decide)))),(gT rfl hu (A5 N.le (A5 F.lq (by decide)))),(gT rfl hu (A5 N.le (A5 F.lq (by decide)))),(aN N.he rfl),(aN N.he rfl),N.hl,(dH (congrArg some l7) F.lq2),F.hw,F.h1,trivial⟩ (by kernel_rfl)
theorem Ju (F:NamF z r r1 r2 r3 st (.att v) (.str [ac]) c q w)(N:NamP z q p val e)(hv:v.length≤1000)(hb:(!nb [e] [59])=true)(hu:(aM q++[V.dat w])[p.length]? =some (.dat (.str [u])))(hlf:fM u=false)(hdf:aZ false u=false)(hef:nb [u] [61]=false):CallOk z.c 6 283 [.ref 0,.dat (.str [ac]),.dat (.boo true)] (TL r st (.at_ v) []) (.dat .non) (TL r3 st (.at_ (v++(val++q.drop p.length))) [.err aA]):=
 z.use (hs:=[aU r1 (.dat (.str [c])),.tst 235011042 false,(.tst 235046077 false),.tst 235110137 false,(.tst 237013032 false),.stm 251 .next (CZ r2 st (.att v) [] (.str [ac]) [38] (.lst (aM q++[V.dat w])) [] []),.bm (.dat (.str q)) (CZ r2 st (.att v) [] (.str [ac]) [38] (.lst (aM q++[V.dat w])) [] [.lst (cK q w)]),.cal 227 5 [] (.dat (.str p)) [],.sub 261019033 (.dat (.str [e])),.tst 261019040 true,.sub 263019033 (.dat (.str [e])),.tst 263019040 true,.itm 263064087 (.dat (.str [u])),.tst 263064103 false,.itm 263107130 (.dat (.str [u])),.tst 263107140 false,.itm 263144167 (.dat (.str [u])),.tst 263144174 false,.sub 267029049 (.dat (.str val)),.bm (.dat w) (CZ r2 st (.att v) [.ref 14] (.str [ac]) val (.lst (aM q)) (nE p) [.lst (cK q w),aV aA]),dF r3,.bm (.dat (.str (q.drop p.length))) (CZ r3 st (.att v) [.ref 14] (.str [ac]) val (.lst (aM q)) (nE p) [.lst (cK q w),aV aA,.lst (cT q p.length)])]) (o:=.fz [14] []) (g:=cg [(true,Nat.ble ((v:Nm).length+((val++q.drop p.length):Nm).length) lim),(true,Nat.ble ((val:Nm).length+(q.drop p.length).length) lim),(true,Nat.ble (aM q).length lim),(false,nb [u] [61]),(false,aZ false u),(false,fM u),(true,!nb [e] [59]),(true,!nb [e] [59]),(true,Nat.ble (p:Nm).length lim),(true,Nat.ble (aM q++[V.dat w]).length lim),(false,nb [c] [35]),(false,nb [ac] [c]),(false,bU (.str [c]) [.non,.str [60],.str [38]]),(false,bF c)]) (ob:=eT z.c 5 (CZ r3 st (.att v) [.ref 14] (.str [ac]) val (.lst (aM q)) (nE p) [.lst (cK q w),aV aA,.lst (cT q p.length)]) (.str [] .join) [.ref 15] (.dat (.str (q.drop p.length))) (CZ r3 st (.att v) [.ref 14] (.str [ac]) val (.lst (aM q)) (nE p) [.lst (cK q w),aV aA,.lst (cT q p.length)])∧cD z r2 (.dat w) r3∧eT z.c 5 (CZ r2 st (.att v) [.ref 14] (.str [ac]) val (.lst (aM q++[V.dat w])) (nE p) [.lst (cK q w),aV aA]) (.lst 12 .pop) [] (.dat w) (CZ r2 st (.att v) [.ref 14] (.str [ac]) val (.lst (aM q)) (nE p) [.lst (cK q w),aV aA])∧(∀ hp,a9 z.c 5 hp getItem z.c.VT (.dat aR) (.dat (.str p)) (.dat (.str val)) hp)∧a9 z.c 5 (CZ r2 st (.att v) [.ref 14] (.str [ac]) [38] (.lst (aM q++[V.dat w])) (nE p) [.lst (cK q w),aV aA]) getItem z.c.VT (.ref 12) (.dat (.int p.length)) (.dat (.str [u])) (CZ r2 st (.att v) [.ref 14] (.str [ac]) [38] (.lst (aM q++[V.dat w])) (nE p) [.lst (cK q w),aV aA])∧a9 z.c 5 (CZ r2 st (.att v) [.ref 14] (.str [ac]) [38] (.lst (aM q++[V.dat w])) (nE p) [.lst (cK q w),aV aA]) getItem z.c.VT (.ref 12) (.dat (.int p.length)) (.dat (.str [u])) (CZ r2 st (.att v) [.ref 14] (.str [ac]) [38] (.lst (aM q++[V.dat w])) (nE p) [.lst (cK q w),aV aA])∧a9 z.c 5 (CZ r2 st (.att v) [.ref 14] (.str [ac]) [38] (.lst (aM q++[V.dat w])) (nE p) [.lst (cK q w),aV aA]) getItem z.c.VT (.ref 12) (.dat (.int p.length)) (.dat (.str [u])) (CZ r2 st (.att v) [.ref 14] (.str [ac]) [38] (.lst (aM q++[V.dat w])) (nE p) [.lst (cK q w),aV aA])∧(∀ hp,a9 z.c 5 hp getItem z.c.VT (.dat (.str p)) (.dat (.int (-1))) (.dat (.str [e])) hp)∧(∀ hp,a9 z.c 5 hp getItem z.c.VT (.dat (.str p)) (.dat (.int (-1))) (.dat (.str [e])) hp)∧CallOk z.c 5 227 [.top 236,.dat (.str q)] [] (.dat (.str p)) []∧eT z.c 5 (CZ r2 st (.att v) [] (.str [ac]) [38] (.lst (aM q++[V.dat w])) [] [.lst (cK q w)]) (.str [] .join) [.ref 13] (.dat (.str q)) (CZ r2 st (.att v) [] (.str [ac]) [38] (.lst (aM q++[V.dat w])) [] [.lst (cK q w)])∧RS z.c l6.names 5 CX (CZ r1 st (.att v) [] (.str [ac]) [38] (.lst (aM [c])) [] []) tX.s .next (CZ r2 st (.att v) [] (.str [ac]) [38] (.lst (aM q++[V.dat w])) [] [])∧aT z r (.dat (.str [c])) r1∧True) (aB (N.g3 F hv) (aB (N.g2 F) (aB F.g2 (aB hef (aB hdf (aB hlf (aB hb (aB hb (aB (N.g1 F.lq) (aB F.g1 (aB F.t3 (aB (F.t2 ac rfl) (aB F.t1 (aB F.t0 aG)))))))))))))) ⟨(dH (congrArg some (t7 N.le)) (A5 (List.length_drop▸Nat.sub_le _ _) F.lq2)),F.h3,(l8 rfl (A5 F.lq (by decide))),(λ_=>gG N.hv),(gT rfl hu (A5 N.le (A5 F.lq (by decide)))),(gT rfl hu (A5 N.le (A5 F.lq (by decide)))),(gT rfl hu (A5 N.le (A5 F.lq (by decide)))),(aN N.he rfl),(aN N.he rfl),N.hl,(dH (congrArg some l7) F.lq2),F.hw,F.h1,trivial⟩ (by kernel_rfl)
theorem Pi (F:NamF z r r1 r2 r3 st (.att v) (.str [ac]) c q w)(N:NamP z q p val e)(hv:v.length≤1000)(hb:(!nb [e] [59])=true)(hu:(aM q++[V.dat w])[p.length]? =some (.dat .non)):CallOk z.c 6 283 [.ref 0,.dat (.str [ac]),.dat (.boo true)] (TL r st (.at_ v) []) (.dat .non) (TL r3 st (.at_ (v++(val++q.drop p.length))) [.err aA]):=
 z.use (hs:=[aU r1 (.dat (.str [c])),.tst 235011042 false,(.tst 235046077 false),.tst 235110137 false,(.tst 237013032 false),.stm 251 .next (CZ r2 st (.att v) [] (.str [ac]) [38] (.lst (aM q++[V.dat w])) [] []),.bm (.dat (.str q)) (CZ r2 st (.att v) [] (.str [ac]) [38] (.lst (aM q++[V.dat w])) [] [.lst (cK q w)]),.cal 227 5 [] (.dat (.str p)) [],.sub 261019033 (.dat (.str [e])),.tst 261019040 true,.sub 263019033 (.dat (.str [e])),.tst 263019040 true,.itm 263064087 (.dat .non),.itm 263107130 (.dat .non),.itm 263144167 (.dat .non),.sub 267029049 (.dat (.str val)),.bm (.dat w) (CZ r2 st (.att v) [.ref 14] (.str [ac]) val (.lst (aM q)) (nE p) [.lst (cK q w),aV aA]),dF r3,.bm (.dat (.str (q.drop p.length))) (CZ r3 st (.att v) [.ref 14] (.str [ac]) val (.lst (aM q)) (nE p) [.lst (cK q w),aV aA,.lst (cT q p.length)])]) (o:=.fz [14] []) (g:=cg [(true,Nat.ble ((v:Nm).length+((val++q.drop p.length):Nm).length) lim),(true,Nat.ble ((val:Nm).length+(q.drop p.length).length) lim),(true,Nat.ble (aM q).length lim),(true,!nb [e] [59]),(true,!nb [e] [59]),(true,Nat.ble (p:Nm).length lim),(true,Nat.ble (aM q++[V.dat w]).length lim),(false,nb [c] [35]),(false,nb [ac] [c]),(false,bU (.str [c]) [.non,.str [60],.str [38]]),(false,bF c)]) (ob:=eT z.c 5 (CZ r3 st (.att v) [.ref 14] (.str [ac]) val (.lst (aM q)) (nE p) [.lst (cK q w),aV aA,.lst (cT q p.length)]) (.str [] .join) [.ref 15] (.dat (.str (q.drop p.length))) (CZ r3 st (.att v) [.ref 14] (.str [ac]) val (.lst (aM q)) (nE p) [.lst (cK q w),aV aA,.lst (cT q p.length)])∧cD z r2 (.dat w) r3∧eT z.c 5 (CZ r2 st (.att v) [.ref 14] (.str [ac]) val (.lst (aM q++[V.dat w])) (nE p) [.lst (cK q w),aV aA]) (.lst 12 .pop) [] (.dat w) (CZ r2 st (.att v) [.ref 14] (.str [ac]) val (.lst (aM q)) (nE p) [.lst (cK q w),aV aA])∧(∀ hp,a9 z.c 5 hp getItem z.c.VT (.dat aR) (.dat (.str p)) (.dat (.str val)) hp)∧a9 z.c 5 (CZ r2 st (.att v) [.ref 14] (.str [ac]) [38] (.lst (aM q++[V.dat w])) (nE p) [.lst (cK q w),aV aA]) getItem z.c.VT (.ref 12) (.dat (.int p.length)) (.dat .non) (CZ r2 st (.att v) [.ref 14] (.str [ac]) [38] (.lst (aM q++[V.dat w])) (nE p) [.lst (cK q w),aV aA])∧a9 z.c 5 (CZ r2 st (.att v) [.ref 14] (.str [ac]) [38] (.lst (aM q++[V.dat w])) (nE p) [.lst (cK q w),aV aA]) getItem z.c.VT (.ref 12) (.dat (.int p.length)) (.dat .non) (CZ r2 st (.att v) [.ref 14] (.str [ac]) [38] (.lst (aM q++[V.dat w])) (nE p) [.lst (cK q w),aV aA])∧a9 z.c 5 (CZ r2 st (.att v) [.ref 14] (.str [ac]) [38] (.lst (aM q++[V.dat w])) (nE p) [.lst (cK q w),aV aA]) getItem z.c.VT (.ref 12) (.dat (.int p.length)) (.dat .non) (CZ r2 st (.att v) [.ref 14] (.str [ac]) [38] (.lst (aM q++[V.dat w])) (nE p) [.lst (cK q w),aV aA])∧(∀ hp,a9 z.c 5 hp getItem z.c.VT (.dat (.str p)) (.dat (.int (-1))) (.dat (.str [e])) hp)∧(∀ hp,a9 z.c 5 hp getItem z.c.VT (.dat (.str p)) (.dat (.int (-1))) (.dat (.str [e])) hp)∧CallOk z.c 5 227 [.top 236,.dat (.str q)] [] (.dat (.str p)) []∧eT z.c 5 (CZ r2 st (.att v) [] (.str [ac]) [38] (.lst (aM q++[V.dat w])) [] [.lst (cK q w)]) (.str [] .join) [.ref 13] (.dat (.str q)) (CZ r2 st (.att v) [] (.str [ac]) [38] (.lst (aM q++[V.dat w])) [] [.lst (cK q w)])∧RS z.c l6.names 5 CX (CZ r1 st (.att v) [] (.str [ac]) [38] (.lst (aM [c])) [] []) tX.s .next (CZ r2 st (.att v) [] (.str [ac]) [38] (.lst (aM q++[V.dat w])) [] [])∧aT z r (.dat (.str [c])) r1∧True) (aB (N.g3 F hv) (aB (N.g2 F) (aB F.g2 (aB hb (aB hb (aB (N.g1 F.lq) (aB F.g1 (aB F.t3 (aB (F.t2 ac rfl) (aB F.t1 (aB F.t0 aG))))))))))) ⟨(dH (congrArg some (t7 N.le)) (A5 (List.length_drop▸Nat.sub_le _ _) F.lq2)),F.h3,(l8 rfl (A5 F.lq (by decide))),(λ_=>gG N.hv),(gT rfl hu (A5 N.le (A5 F.lq (by decide)))),(gT rfl hu (A5 N.le (A5 F.lq (by decide)))),(gT rfl hu (A5 N.le (A5 F.lq (by decide)))),(aN N.he rfl),(aN N.he rfl),N.hl,(dH (congrArg some l7) F.lq2),F.hw,F.h1,trivial⟩ (by kernel_rfl)
theorem Jv (F:NamF z r r1 r2 r3 st (.att v) (.str [ac]) c q w)(hv:v.length≤1000)(hx:RS z.c l6.names 5 CX (CZ r2 st (.att v) [] (.str [ac]) [38] (.dls (dw q w)) [] []) pK .next (CZ r2 st (.att v) [] (.str [ac]) [38] (.dls (dw q w)) nN [.dls (dk q)])):CallOk z.c 6 283 [.ref 0,.dat (.str [ac]),.dat (.boo true)] (TL r st (.at_ v) []) (.dat .non) (TL r3 st (.at_ (v++([38]++q))) [.err aF]):=
 z.use (hs:=[aU r1 (.dat (.str [c])),.tst 235011042 false,(.tst 235046077 false),.tst 235110137 false,(.tst 237013032 false),.stm 251 .next (CZ r2 st (.att v) [] (.str [ac]) [38] (.dls (dw q w)) [] []),.stm 255 .next (CZ r2 st (.att v) [] (.str [ac]) [38] (.dls (dw q w)) nN [.dls (dk q)]),.led 272 (CZ r2 st (.att v) [.ref 14] (.str [ac]) [38] (.dls (dw q w)) nN [.dls (dk q),aV aF]),.bm (.dat w) (CZ r2 st (.att v) [.ref 14] (.str [ac]) [38] (.dls (dk q)) nN [.dls (dk q),aV aF]),dF r3,.bm (.dat (.str q)) (CZ r3 st (.att v) [.ref 14] (.str [ac]) [38] (.dls (dk q)) nN [.dls (dk q),aV aF])]) (o:=.fz [14] []) (g:=cg [(true,Nat.ble ((v:Nm).length+(([38]++q):Nm).length) lim),(true,Nat.ble (([38]:Nm).length+(q:Nm).length) lim),(false,nb [c] [35]),(false,nb [ac] [c]),(false,bU (.str [c]) [.non,.str [60],.str [38]]),(false,bF c)]) (ob:=eT z.c 5 (CZ r3 st (.att v) [.ref 14] (.str [ac]) [38] (.dls (dk q)) nN [.dls (dk q),aV aF]) (.str [] .join) [.ref 12] (.dat (.str q)) (CZ r3 st (.att v) [.ref 14] (.str [ac]) [38] (.dls (dk q)) nN [.dls (dk q),aV aF])∧cD z r2 (.dat w) r3∧eT z.c 5 (CZ r2 st (.att v) [.ref 14] (.str [ac]) [38] (.dls (dw q w)) nN [.dls (dk q),aV aF]) (.lst 12 .pop) [] (.dat w) (CZ r2 st (.att v) [.ref 14] (.str [ac]) [38] (.dls (dk q)) nN [.dls (dk q),aV aF])∧(CZ r2 st (.att v) [.ref 14] (.str [ac]) [38] (.dls (dw q w)) nN [.dls (dk q),aV aF])=(CZ r2 st (.att v) [.ref 14] (.str [ac]) [38] (.dls (dw q w)) nN [.dls (dk q),aV aF])∧RS z.c l6.names 5 CX (CZ r2 st (.att v) [] (.str [ac]) [38] (.dls (dw q w)) [] []) pK .next (CZ r2 st (.att v) [] (.str [ac]) [38] (.dls (dw q w)) nN [.dls (dk q)])∧RS z.c l6.names 5 CX (CZ r1 st (.att v) [] (.str [ac]) [38] (.lst (aM [c])) [] []) tX.s .next (CZ r2 st (.att v) [] (.str [ac]) [38] (.dls (dw q w)) [] [])∧aT z r (.dat (.str [c])) r1∧True) (aB (F.g4 hv) (aB F.g3 (aB F.t3 (aB (F.t2 ac rfl) (aB F.t1 (aB F.t0 aG)))))) ⟨(dH (congrArg some (tZ q)) F.lq2),F.h3,(Mg rfl (A5 F.lq (by decide))),rfl,hx,(eG (l:=12) (ds:=dw q w) F.hw (congrArg some (zD q w).symm)),F.h1,trivial⟩ (by kernel_rfl)
end
end
section
noncomputable def Jw:List (Nm×D):=match aR with
 |.dct es=>es
 |_=>[]
noncomputable def fH (p:Nm):Nm:=match lk Jw p with
 |some d=>PQ d
 |none=>[]
noncomputable def FF:Option Nat→Bool
 |none=>false
 |some u=>fM u||(aZ false u||nb [u] [61])
noncomputable def cA (p:Nm):Nat:=p.getLastD 0
noncomputable def t8:Tok:=.err aA
noncomputable def Uz:Tok:=.err aF
noncomputable def oG (fa:Bool)(q y:Nm):List Tok×Nm:=match y9 q with
 |none=>([Uz],[38]++q)
 |some p=>bif nb [cA p] [59]then([],fH p++q.drop p.length)else bif fa&&FF ((q++y)[p.length]?)then([t8],[38]++q)else([t8],fH p++q.drop p.length)
theorem Pj:(aS.all λp=>uV p&&(match lk Jw p with|some d=>(match d with|.str x=>Nat.ble x.length 10|_=>false)|none=>false))=true:=by kernel_rfl
theorem rU {p:Nm}(h:aO p aS=true):p≠[]∧lk Jw p=some (.str (fH p))∧(fH p).length≤10:=by
 have q:=A0 (List.all_eq_true.mp Pj p (eZ h))
 have q2:=q.2
 unfold fH
 cases e:lk Jw p with
 |none=>rw[e]at q2;cases q2
 |some d=>
  rw[e]at q2
  cases d with
  |str x=>exact⟨λw=>by rw[w]at q;exact A8 q.1,rfl,A3 q2⟩
  |_=>cases q2
theorem FG {x p:Nm}:∀ {k:Nat},lJ x k=some p→aO p aS=true∧∃ j,p=x.take j
 |0,h=>by cases h
 |k+1,h=>by
  have h:(bif aO (x.take k) aS then some (x.take k)else lJ x k)=some p:=h
  cases e:aO (x.take k) aS with
  |true=>rw[e]at h;cases h;exact⟨e,k,rfl⟩
  |false=>rw[e]at h;exact FG h
theorem rV {p:Nm}(h:p≠[]):sQ p (-1)=some (cA p):=by
 obtain⟨l,a,rfl⟩:∃ l a,p=l++[a]:=⟨p.dropLast,p.getLast h,(List.dropLast_concat_getLast h).symm⟩
 rw[zC]
 show some a=some ((l++[a]).getLastD 0)
 rw[List.getLastD_concat]
noncomputable def XI:Nm→D
 | []=>.non
 |c::_=>.str [c]
noncomputable def Yh:Option Nat→D
 |none=>.non
 |some u=>.str [u]
theorem Pk {q y:Nm}{k:Nat}(h:k≤q.length):(aM q++[V.dat (XI y)])[k]? =some (.dat (Yh ((q++y)[k]?))):=by
 rcases Nat.lt_or_ge k q.length with lt|ge
 ·rw[List.getElem?_append_left (by rw[eA];exact lt),List.getElem?_append_left lt,List.getElem?_map,List.getElem?_eq_getElem lt]
  rfl
 ·obtain rfl:k=q.length:=Nat.le_antisymm h ge
  rw[List.getElem?_append_right (by rw[eA];exact A7 _),eA,Nat.sub_self,List.getElem?_append_right (A7 _),Nat.sub_self]
  cases y <;>rfl
noncomputable def Mo.put (m:Mo)(a:List Tok×Nm):CT×List Tok:=match m with
 |.txt d=>(.dead true d,a.1++[BI a.2])
 |.att v=>(.at_ (v++a.2),a.1)
noncomputable def Mo.args (m:Mo)(al:D):List V:=match m with
 |.txt _=>[.ref 0]
 |.att _=>[.ref 0,.dat al,.dat (.boo true)]
noncomputable def Mo.Small:Mo→Prop
 |.txt _=>True
 |.att v=>v.length≤1000
section
variable {z:bS}{T:Nm}{E:Nat}{r r1 r2 r3:Stm}{st:Nat}{m:Mo}{al:D}{c:Nat}{q y:Nm}{ms l:Nm}
theorem Lft.hd {w:D}(h:Lft T E r w y):w=XI y:=by cases h <;>rfl
theorem Lft.un {w:D}(h:Lft T E r w y):∃ r',cD z r (.dat w) r'∧At' T true E r' [] y:=by
 cases h with
 |non a=>exact⟨r,dE,a⟩
 |sgn a hl=>exact(fA (z:=z) a hl (.inr ⟨rfl,rfl⟩)).elim λr' q=>⟨r',q.1,q.2.none⟩
noncomputable def Mo.alOk:Mo→D→Prop
 |.txt _,al=>al=.non
 |.att _,al=>∃ ac,al=.str [ac]
theorem FH (sm:m.Small)(ho:m.alOk al)(F:NamF z r r1 r2 r3 st m al c q (XI y)):CallOk z.c 6 283 (m.args al) (TL r st m.ct []) (.dat .non) (TL r3 st (m.put (oG m.fa q y)).1 (m.put (oG m.fa q y)).2):=by
 unfold oG
 cases e:y9 q with
 |none=>
  have hx:=λal=>Ux (z:=z) (r:=r2) (st:=st) (m:=m) (al:=al) (w:=XI y) (A5 F.lq (by decide)) e
  cases m with
  |txt d=>obtain rfl:al=.non:=ho;exact Js F (hx _)
  |att v=>obtain⟨ac,rfl⟩:=ho;exact Jv F sm (hx _)
 |some p=>
  obtain⟨pe,j,pj⟩:=FG e
  obtain⟨ne,hv,vl⟩:=rU pe
  have le:p.length≤q.length:=by rw[pj,List.length_take];exact Nat.min_le_right ..
  have N:NamP z q p (fH p) (cA p):=⟨Uq z F.lq2 e,rV ne,hv,le,vl⟩
  dsimp only
  cases hb:nb [cA p] [59]with
  |true=>
   have hb':(!nb [cA p] [59])=false:=congrArg (!·) hb
   cases m with
   |txt d=>
    obtain rfl:al=.non:=ho
    show CallOk _ _ _ _ _ _ (TL r3 st (.dead true d) ([]++[BI (fH p++q.drop p.length)]))
    exact Jq F N hb' (b:=fD (fH p++q.drop p.length)) rfl
   |att v=>obtain⟨ac,rfl⟩:=ho;exact Jt F N sm hb'
  |false=>
   have hb':(!nb [cA p] [59])=true:=congrArg (!·) hb
   cases m with
   |txt d=>
    obtain rfl:al=.non:=ho
    show CallOk _ _ _ _ _ _ (TL r3 st (.dead true d) ([t8]++[BI (fH p++q.drop p.length)]))
    exact Jr F N hb' (b:=fD (fH p++q.drop p.length)) rfl
   |att v=>
    obtain⟨ac,rfl⟩:=ho
    have hu:=Pk (q:=q) (y:=y) le
    show CallOk _ _ _ _ _ _ (TL r3 st ((Mo.att v).put (bif FF ((q++y)[p.length]?)then _ else _)).1 ((Mo.att v).put (bif FF ((q++y)[p.length]?)then _ else _)).2)
    generalize (q++y)[p.length]? =o at hu ⊢
    cases o with
    |none=>exact Pi F N sm hb' hu
    |some u=>
     show CallOk _ _ _ _ _ _ (TL r3 st ((Mo.att v).put (bif (fM u||(aZ false u||nb [u] [61]))then _ else _)).1 ((Mo.att v).put (bif (fM u||(aZ false u||nb [u] [61]))then _ else _)).2)
     cases h1:fM u with
     |true=>exact Pg F N sm hb' hu h1
     |false=>cases h2:aZ false u with
      |true=>exact Ph F N sm hb' hu h1 h2
      |false=>cases h3:nb [u] [61]with
       |true=>exact Uy F N sm hb' hu h1 h2 h3
       |false=>exact Ju F N sm hb' hu h1 h2 h3
end
end
section
noncomputable def dI:Nm:=[101,120,112,101,99,116,101,100,45,110,117,109,101,114,105,99,45,101,110,116,105,116,121]
noncomputable def jC:Tok:=.err dI
section
variable {z:bS}{r r1 r2 r3 r4 r5:Stm}{st:Nat}{d:D}{v:Nm}{c e k:Nat}{ac:Nat}
theorem Pm (h1:aT z r (.dat .non) r1):CallOk z.c 6 283 [.ref 0] (TL r st (.dead true d) []) (.dat .non) (TL r1 st (.dead true d) [.chr1 [38]]):=
 z.use (hs:=[aU r1 (.dat .non),dF r1]) (o:=.fz [13] []) (g:=cg []) (ob:=cD z r1 (.dat .non) r1∧aT z r (.dat .non) r1∧True) aG ⟨dE,h1,trivial⟩ (by kernel_rfl)
theorem VA (h1:aT z r (.dat (.str [c])) r1)(h2:cD z r1 (.dat (.str [c])) r2)(t0:bF c=true):CallOk z.c 6 283 [.ref 0] (TL r st (.dead true d) []) (.dat .non) (TL r2 st (.dead true d) [.chr1 [38]]):=
 z.use (hs:=[aU r1 (.dat (.str [c])),(.tst 235011042 true),dF r2]) (o:=.fz [13] []) (g:=cg [(true,bF c)]) (aB t0 aG) (an h2 (an h1 trivial)) (by kernel_rfl)
theorem VB (h1:aT z r (.dat (.str [c])) r1)(h2:cD z r1 (.dat (.str [c])) r2)(t0:bF c=false)(t1:bU (.str [c]) [.non,.str [60],.str [38]]=true):CallOk z.c 6 283 [.ref 0] (TL r st (.dead true d) []) (.dat .non) (TL r2 st (.dead true d) [.chr1 [38]]):=
 z.use (hs:=[aU r1 (.dat (.str [c])),(.tst 235011042 false),(.tst 235046077 true),dF r2]) (o:=.fz [13] []) (g:=cg [(true,bU (.str [c]) [.non,.str [60],.str [38]]),(false,bF c)]) (aB t1 (aB t0 aG)) (an h2 (an h1 trivial)) (by kernel_rfl)
theorem Pn (h1:aT z r (.dat (.str [35])) r1)(h2:aT z r1 (.dat .non) r2):CallOk z.c 6 283 [.ref 0] (TL r st (.dead true d) []) (.dat .non) (TL r2 st (.dead true d) [jC,.chr1 [38,35]]):=
 z.use (hs:=[aU r1 (.dat (.str [35])),aU r2 (.dat .non),dF r2]) (o:=.fz [13,14] []) (g:=cg []) (ob:=cD z r2 (.dat .non) r2∧aT z r1 (.dat .non) r2∧aT z r (.dat (.str [35])) r1∧True) aG ⟨dE,h2,h1,trivial⟩ (by kernel_rfl)
theorem VC (h1:aT z r (.dat (.str [35])) r1)(h2:aT z r1 (.dat (.str [c])) r2)(h3:cD z r2 (.dat (.str [c])) r3)(tx:jH 120 88 c=false)(td:aZ false c=false):CallOk z.c 6 283 [.ref 0] (TL r st (.dead true d) []) (.dat .non) (TL r3 st (.dead true d) [jC,.chr1 [38,35]]):=
 z.use (hs:=[aU r1 (.dat (.str [35])),aU r2 (.dat (.str [c])),(.tst 240015042 false),(.tst 243066089 false),dF r3]) (o:=.fz [13,14] []) (g:=cg [(false,aZ false c),(false,jH 120 88 c)]) (aB td (aB tx aG)) (an h3 (an h2 (an h1 trivial))) (by kernel_rfl)
theorem Jx (h1:aT z r (.dat (.str [35])) r1)(h2:aT z r1 (.dat (.str [c])) r2)(tx:jH 120 88 c=true)(h3:aT z r2 (.dat .non) r3):CallOk z.c 6 283 [.ref 0] (TL r st (.dead true d) []) (.dat .non) (TL r3 st (.dead true d) [jC,.chr1 [38,35,c]]):=
 z.use (hs:=[aU r1 (.dat (.str [35])),aU r2 (.dat (.str [c])),(.tst 240015042 true),aU r3 (.dat .non),dF r3]) (o:=.fz [13,14] []) (g:=cg [(true,jH 120 88 c)]) (ob:=cD z r3 (.dat .non) r3∧aT z r2 (.dat .non) r3∧aT z r1 (.dat (.str [c])) r2∧aT z r (.dat (.str [35])) r1∧True) (aB tx aG) ⟨dE,h3,h2,h1,trivial⟩ (by kernel_rfl)
theorem Po (h1:aT z r (.dat (.str [35])) r1)(h2:aT z r1 (.dat (.str [c])) r2)(tx:jH 120 88 c=true)(h3:aT z r2 (.dat (.str [e])) r3)(te:aZ true e=false)(h4:cD z r3 (.dat (.str [e])) r4):CallOk z.c 6 283 [.ref 0] (TL r st (.dead true d) []) (.dat .non) (TL r4 st (.dead true d) [jC,.chr1 [38,35,c]]):=
 z.use (hs:=[aU r1 (.dat (.str [35])),aU r2 (.dat (.str [c])),(.tst 240015042 true),aU r3 (.dat (.str [e])),(.tst 243023049 false),dF r4]) (o:=.fz [13,14] []) (g:=cg [(false,aZ true e),(true,jH 120 88 c)]) (aB te (aB tx aG)) (an h4 (an h3 (an h2 (an h1 trivial)))) (by kernel_rfl)
theorem Pp (h1:aT z r (.dat (.str [35])) r1)(h2:aT z r1 (.dat (.str [c])) r2)(h3:cD z r2 (.dat (.str [c])) r3)(tx:jH 120 88 c=false)(td:aZ false c=true){es:List Tok}(he:es=[]∨es=[cO]){b:Bool}(hs:fD [k]=b)(hn:CallOk z.c 5 275 [.ref 0,.dat (.boo false)] (TL r3 st (.dead true d) []) (.dat (.str [k])) (TL r4 st (.dead true d) es)):CallOk z.c 6 283 [.ref 0] (TL r st (.dead true d) []) (.dat .non) (TL r4 st (.dead true d) (es++[bif b then .chr2 [k]else .chr1 [k]])):=
 z.use (hs:=[aU r1 (.dat (.str [35])),aU r2 (.dat (.str [c])),(.tst 240015042 false),(.tst 243066089 true),dF r3,.cal 275 5 aAj (.dat (.str [k])) (TL r4 st (.dead true d) es),(.tst 277015040 b)]) (o:=.fz [13] []) (g:=cg [(b,fD [k]),(true,aZ false c),(false,jH 120 88 c)]) (aB hs (aB td (aB tx aG))) (an hn (an h3 (an h2 (an h1 trivial)))) (by rcases he with rfl|rfl <;>cases b <;>kernel_rfl)
theorem Pq (h1:aT z r (.dat (.str [35])) r1)(h2:aT z r1 (.dat (.str [c])) r2)(tx:jH 120 88 c=true)(h3:aT z r2 (.dat (.str [e])) r3)(te:aZ true e=true)(h4:cD z r3 (.dat (.str [e])) r4){es:List Tok}(he:es=[]∨es=[cO]){b:Bool}(hs:fD [k]=b)(hn:CallOk z.c 5 275 [.ref 0,.dat (.boo true)] (TL r4 st (.dead true d) []) (.dat (.str [k])) (TL r5 st (.dead true d) es)):CallOk z.c 6 283 [.ref 0] (TL r st (.dead true d) []) (.dat .non) (TL r5 st (.dead true d) (es++[bif b then .chr2 [k]else .chr1 [k]])):=
 z.use (hs:=[aU r1 (.dat (.str [35])),aU r2 (.dat (.str [c])),(.tst 240015042 true),aU r3 (.dat (.str [e])),(.tst 243023049 true),dF r4,.cal 275 5 aAj (.dat (.str [k])) (TL r5 st (.dead true d) es),(.tst 277015040 b)]) (o:=.fz [13] []) (g:=cg [(b,fD [k]),(true,aZ true e),(true,jH 120 88 c)]) (aB hs (aB te (aB tx aG))) (an hn (an h4 (an h3 (an h2 (an h1 trivial))))) (by rcases he with rfl|rfl <;>cases b <;>kernel_rfl)
theorem Pr (h1:aT z r (.dat .non) r1)(hv:v.length≤1000):CallOk z.c 6 283 [.ref 0,.dat (.str [ac]),.dat (.boo true)] (TL r st (.at_ v) []) (.dat .non) (TL r1 st (.at_ (v++[38])) []):=
 z.use (hs:=[aU r1 (.dat .non),dF r1]) (o:=.fz [] []) (g:=cg [(true,Nat.ble ((v:Nm).length+([38]:Nm).length) lim)]) (ob:=cD z r1 (.dat .non) r1∧aT z r (.dat .non) r1∧True) (aB (eQ hv (A7 1) rfl) aG) ⟨dE,h1,trivial⟩ (by kernel_rfl)
theorem VD (h1:aT z r (.dat (.str [c])) r1)(h2:cD z r1 (.dat (.str [c])) r2)(hv:v.length≤1000)(t0:bF c=true):CallOk z.c 6 283 [.ref 0,.dat (.str [ac]),.dat (.boo true)] (TL r st (.at_ v) []) (.dat .non) (TL r2 st (.at_ (v++[38])) []):=
 z.use (hs:=[aU r1 (.dat (.str [c])),(.tst 235011042 true),dF r2]) (o:=.fz [] []) (g:=cg [(true,Nat.ble ((v:Nm).length+([38]:Nm).length) lim),(true,bF c)]) (aB (eQ hv (A7 1) rfl) (aB t0 aG)) (an h2 (an h1 trivial)) (by kernel_rfl)
theorem VE (h1:aT z r (.dat (.str [c])) r1)(h2:cD z r1 (.dat (.str [c])) r2)(hv:v.length≤1000)(t0:bF c=false)(t1:bU (.str [c]) [.non,.str [60],.str [38]]=true):CallOk z.c 6 283 [.ref 0,.dat (.str [ac]),.dat (.boo true)] (TL r st (.at_ v) []) (.dat .non) (TL r2 st (.at_ (v++[38])) []):=
 z.use (hs:=[aU r1 (.dat (.str [c])),(.tst 235011042 false),(.tst 235046077 true),dF r2]) (o:=.fz [] []) (g:=cg [(true,Nat.ble ((v:Nm).length+([38]:Nm).length) lim),(true,bU (.str [c]) [.non,.str [60],.str [38]]),(false,bF c)]) (aB (eQ hv (A7 1) rfl) (aB t1 (aB t0 aG))) (an h2 (an h1 trivial)) (by kernel_rfl)
theorem VF (h1:aT z r (.dat (.str [c])) r1)(h2:cD z r1 (.dat (.str [c])) r2)(hv:v.length≤1000)(t0:bF c=false)(t1:bU (.str [c]) [.non,.str [60],.str [38]]=false)(t2:nb [ac] [c]=true):CallOk z.c 6 283 [.ref 0,.dat (.str [ac]),.dat (.boo true)] (TL r st (.at_ v) []) (.dat .non) (TL r2 st (.at_ (v++[38])) []):=
 z.use (hs:=[aU r1 (.dat (.str [c])),(.tst 235011042 false),(.tst 235046077 false),(.tst 235110137 true),dF r2]) (o:=.fz [] []) (g:=cg [(true,Nat.ble ((v:Nm).length+([38]:Nm).length) lim),(true,nb [ac] [c]),(false,bU (.str [c]) [.non,.str [60],.str [38]]),(false,bF c)]) (aB (eQ hv (A7 1) rfl) (aB t2 (aB t1 (aB t0 aG)))) (an h2 (an h1 trivial)) (by kernel_rfl)
theorem Ps (h1:aT z r (.dat (.str [35])) r1)(ha:nb [ac] [35]=false)(hv:v.length≤1000)(h2:aT z r1 (.dat .non) r2):CallOk z.c 6 283 [.ref 0,.dat (.str [ac]),.dat (.boo true)] (TL r st (.at_ v) []) (.dat .non) (TL r2 st (.at_ (v++[38,35])) [jC]):=
 z.use (hs:=[aU r1 (.dat (.str [35])),(.tst 235110137 false),aU r2 (.dat .non),dF r2]) (o:=.fz [13] []) (g:=cg [(true,Nat.ble ((v:Nm).length+([38,35]:Nm).length) lim),(false,nb [ac] [35])]) (ob:=cD z r2 (.dat .non) r2∧aT z r1 (.dat .non) r2∧aT z r (.dat (.str [35])) r1∧True) (aB (eQ hv (A7 2) rfl) (aB ha aG)) ⟨dE,h2,h1,trivial⟩ (by kernel_rfl)
theorem VG (h1:aT z r (.dat (.str [35])) r1)(ha:nb [ac] [35]=false)(hv:v.length≤1000)(h2:aT z r1 (.dat (.str [c])) r2)(h3:cD z r2 (.dat (.str [c])) r3)(tx:jH 120 88 c=false)(td:aZ false c=false):CallOk z.c 6 283 [.ref 0,.dat (.str [ac]),.dat (.boo true)] (TL r st (.at_ v) []) (.dat .non) (TL r3 st (.at_ (v++[38,35])) [jC]):=
 z.use (hs:=[aU r1 (.dat (.str [35])),(.tst 235110137 false),aU r2 (.dat (.str [c])),(.tst 240015042 false),(.tst 243066089 false),dF r3]) (o:=.fz [13] []) (g:=cg [(true,Nat.ble ((v:Nm).length+([38,35]:Nm).length) lim),(false,aZ false c),(false,jH 120 88 c),(false,nb [ac] [35])]) (aB (eQ hv (A7 2) rfl) (aB td (aB tx (aB ha aG)))) (an h3 (an h2 (an h1 trivial))) (by kernel_rfl)
theorem Jy (h1:aT z r (.dat (.str [35])) r1)(ha:nb [ac] [35]=false)(hv:v.length≤1000)(h2:aT z r1 (.dat (.str [c])) r2)(tx:jH 120 88 c=true)(h3:aT z r2 (.dat .non) r3):CallOk z.c 6 283 [.ref 0,.dat (.str [ac]),.dat (.boo true)] (TL r st (.at_ v) []) (.dat .non) (TL r3 st (.at_ (v++[38,35,c])) [jC]):=
 z.use (hs:=[aU r1 (.dat (.str [35])),(.tst 235110137 false),aU r2 (.dat (.str [c])),(.tst 240015042 true),aU r3 (.dat .non),dF r3]) (o:=.fz [13] []) (g:=cg [(true,Nat.ble ((v:Nm).length+([38,35,c]:Nm).length) lim),(true,jH 120 88 c),(false,nb [ac] [35])]) (ob:=cD z r3 (.dat .non) r3∧aT z r2 (.dat .non) r3∧aT z r1 (.dat (.str [c])) r2∧aT z r (.dat (.str [35])) r1∧True) (aB (eQ hv (A7 3) rfl) (aB tx (aB ha aG))) ⟨dE,h3,h2,h1,trivial⟩ (by kernel_rfl)
theorem Pu (h1:aT z r (.dat (.str [35])) r1)(ha:nb [ac] [35]=false)(hv:v.length≤1000)(h2:aT z r1 (.dat (.str [c])) r2)(tx:jH 120 88 c=true)(h3:aT z r2 (.dat (.str [e])) r3)(te:aZ true e=false)(h4:cD z r3 (.dat (.str [e])) r4):CallOk z.c 6 283 [.ref 0,.dat (.str [ac]),.dat (.boo true)] (TL r st (.at_ v) []) (.dat .non) (TL r4 st (.at_ (v++[38,35,c])) [jC]):=
 z.use (hs:=[aU r1 (.dat (.str [35])),(.tst 235110137 false),aU r2 (.dat (.str [c])),(.tst 240015042 true),aU r3 (.dat (.str [e])),(.tst 243023049 false),dF r4]) (o:=.fz [13] []) (g:=cg [(true,Nat.ble ((v:Nm).length+([38,35,c]:Nm).length) lim),(false,aZ true e),(true,jH 120 88 c),(false,nb [ac] [35])]) (aB (eQ hv (A7 3) rfl) (aB te (aB tx (aB ha aG)))) (an h4 (an h3 (an h2 (an h1 trivial)))) (by kernel_rfl)
theorem Pv (h1:aT z r (.dat (.str [35])) r1)(ha:nb [ac] [35]=false)(hv:v.length≤1000)(h2:aT z r1 (.dat (.str [c])) r2)(h3:cD z r2 (.dat (.str [c])) r3)(tx:jH 120 88 c=false)(td:aZ false c=true){es:List Tok}(he:es=[]∨es=[cO])(hn:CallOk z.c 5 275 [.ref 0,.dat (.boo false)] (TL r3 st (.at_ v) []) (.dat (.str [k])) (TL r4 st (.at_ v) es)):CallOk z.c 6 283 [.ref 0,.dat (.str [ac]),.dat (.boo true)] (TL r st (.at_ v) []) (.dat .non) (TL r4 st (.at_ (v++[k])) es):=
 z.use (hs:=[aU r1 (.dat (.str [35])),(.tst 235110137 false),aU r2 (.dat (.str [c])),(.tst 240015042 false),(.tst 243066089 true),dF r3,.cal 275 5 aAj (.dat (.str [k])) (TL r4 st (.at_ v) es)]) (o:=.fz [] []) (g:=cg [(true,Nat.ble ((v:Nm).length+([k]:Nm).length) lim),(true,aZ false c),(false,jH 120 88 c),(false,nb [ac] [35])]) (aB (eQ hv (A7 1) rfl) (aB td (aB tx (aB ha aG)))) (an hn (an h3 (an h2 (an h1 trivial)))) (by rcases he with rfl|rfl <;>kernel_rfl)
theorem Pw (h1:aT z r (.dat (.str [35])) r1)(ha:nb [ac] [35]=false)(hv:v.length≤1000)(h2:aT z r1 (.dat (.str [c])) r2)(tx:jH 120 88 c=true)(h3:aT z r2 (.dat (.str [e])) r3)(te:aZ true e=true)(h4:cD z r3 (.dat (.str [e])) r4){es:List Tok}(he:es=[]∨es=[cO])(hn:CallOk z.c 5 275 [.ref 0,.dat (.boo true)] (TL r4 st (.at_ v) []) (.dat (.str [k])) (TL r5 st (.at_ v) es)):CallOk z.c 6 283 [.ref 0,.dat (.str [ac]),.dat (.boo true)] (TL r st (.at_ v) []) (.dat .non) (TL r5 st (.at_ (v++[k])) es):=
 z.use (hs:=[aU r1 (.dat (.str [35])),(.tst 235110137 false),aU r2 (.dat (.str [c])),(.tst 240015042 true),aU r3 (.dat (.str [e])),(.tst 243023049 true),dF r4,.cal 275 5 aAj (.dat (.str [k])) (TL r5 st (.at_ v) es)]) (o:=.fz [] []) (g:=cg [(true,Nat.ble ((v:Nm).length+([k]:Nm).length) lim),(true,aZ true e),(true,jH 120 88 c),(false,nb [ac] [35])]) (aB (eQ hv (A7 1) rfl) (aB te (aB tx (aB ha aG)))) (an hn (an h4 (an h3 (an h2 (an h1 trivial))))) (by rcases he with rfl|rfl <;>kernel_rfl)
end
end
section
noncomputable def eL (al:D)(c:Nat):Bool:=bF c||(bU (.str [c]) [.non,.str [60],.str [38]]||uU al (.str [c]))
noncomputable def zE (hex:Bool)(x:Nm):Option Nat:=match fL (Md hex) x with
 |some v=>bif HJ v&&(!Nat.beq v 13&&Nat.ble x.length 640)then some v else none
 |none=>none
noncomputable abbrev wM:Type:=(List Tok×Nm)×Nm
noncomputable def oH (hex:Bool)(t:Nm):Option wM:=(zE hex (t.takeWhile (aZ hex))).map λv=>((lK (t.dropWhile (aZ hex)),[v]),oD (t.dropWhile (aZ hex)))
noncomputable def FI (d:Nat):Nm→Option wM
 | []=>some (([jC],[38,35,d]),[])
 |e::t=>bif aZ true e then oH true (e::t)else some (([jC],[38,35,d]),e::t)
noncomputable def oI:Nm→Option wM
 | []=>some (([jC],[38,35]),[])
 |d::t=>bif jH 120 88 d then FI d t else bif aZ false d then oH false (d::t)else some (([jC],[38,35]),d::t)
noncomputable def c7 (fa:Bool)(al:D):Nm→Option wM
 | []=>some (([],[38]),[])
 |c::t=>bif eL al c then some (([],[38]),c::t)else bif nb [c] [35]then oI t else some (oG fa (mx [] (c::t)).1 (mx [] (c::t)).2,(mx [] (c::t)).2)
theorem FJ {hex:Bool}{x:Nm}{v:Nat}(h:zE hex x=some v):fL (Md hex) x=some v∧mR v∧v≠13∧x.length≤640:=by
 unfold zE at h
 cases e:fL (Md hex) x with
 |none=>rw[e]at h;cases h
 |some k=>
  rw[e]at h
  have h:(bif HJ k&&(!Nat.beq k 13&&Nat.ble x.length 640)then some k else none)=some v:=h
  cases q:(HJ k&&(!Nat.beq k 13&&Nat.ble x.length 640))with
  |false=>rw[q]at h;cases h
  |true=>
   rw[q]at h
   cases h
   have q:=A0 q
   have w:=A0 q.2
   exact⟨rfl,q.1,λe=>by rw[e]at w;exact A8 w.1,A3 w.2⟩
noncomputable def Px (z:bS)(T:Nm)(E:Nat)(r:Stm)(st:Nat)(m:Mo)(al:D)(a:wM):Prop:=∃ r',CallOk z.c 6 283 (m.args al) (TL r st m.ct []) (.dat .non) (TL r' st (m.put a.1).1 (m.put a.1).2)∧At' T true E r' [] a.2
section
variable {z:bS}{T:Nm}{E:Nat}{r r1 r2 r3:Stm}{st:Nat}{m:Mo}{al:D}{c:Nat}{ms l:Nm}{a:wM}
theorem FK {c:Nat}(a:At' T true E r ms (c::l)):l.length<15000:=by have:=a.len;rw[B3]at this;lia
theorem wN (w:Nm):lK w=[]∨lK w=[cO]:=by
 cases w with
 |nil=>exact .inr rfl
 |cons c t=>
  show(bif nb [c] [59]then []else [cO])=[]∨(bif nb [c] [59]then []else [cO])=[cO]
  cases nb [c] [59]with
  |true=>exact .inl rfl
  |false=>exact .inr rfl
noncomputable def Py (z:bS)(r r':Stm)(st:Nat)(m:Mo)(al:D)(hex:Bool)(r0:Stm):Prop:=∀ (errs:List Tok) (v:Nat),errs=[]∨errs=[cO]→CallOk z.c 5 275 [.ref 0,.dat (.boo hex)] (TL r0 st m.ct []) (.dat (.str [v])) (TL r' st m.ct errs)→
 CallOk z.c 6 283 (m.args al) (TL r st m.ct []) (.dat .non) (TL r' st (m.put (errs,[v])).1 (m.put (errs,[v])).2)
theorem t9 (R:RplOk z.K){hex:Bool}{c:Nat}{r0:Stm}(at_:At' T true E r0 ms (c::l))(hx:aZ hex c=true)(h:oH hex (c::l)=some a)(P:∀ r',Py z r r' st m al hex r0):Px z T E r st m al a:=by
 unfold oH at h
 obtain⟨v,hv,rfl⟩:=Option.map_eq_some_iff.mp h
 obtain⟨e,ok,n13,hl⟩:=FJ hv
 obtain⟨r',q,a'⟩:=Uu (z:=z) (st:=st) (m:=m) R at_ e hx hl ok n13
 exact⟨r',P r' _ _ (wN _) q,a'⟩
theorem FM {c:Nat}(h:eL al c=false):bF c=false∧bU (.str [c]) [.non,.str [60],.str [38]]=false∧uU al (.str [c])=false:=
 have h:=Bool.or_eq_false_iff.mp h
 have q:=Bool.or_eq_false_iff.mp h.2
 ⟨h.1,q.1,q.2⟩
theorem VH (sm:m.Small)(ho:m.alOk al)(ha:uU al (.str [35])=false)(h1:aT z r (.dat (.str [35])) r1)(h2:aT z r1 (.dat (.str [c])) r2)(tx:jH 120 88 c=false)(td:aZ false c=true)(h3:cD z r2 (.dat (.str [c])) r3)(r':Stm):Py z r r' st m al false r3:=λerrs v he hn=>by
 cases m with
 |txt d=>
  obtain rfl:al=.non:=ho
  show CallOk _ _ _ _ _ _ (TL r' st (.dead true d) (errs++[BI [v]]))
  exact Pp h1 h2 h3 tx td he (b:=fD [v]) rfl hn
 |att x=>
  obtain⟨ac,rfl⟩:=ho
  exact Pv h1 ha sm h2 h3 tx td he hn
theorem VI {e:Nat}{r4:Stm}(sm:m.Small)(ho:m.alOk al)(ha:uU al (.str [35])=false)(h1:aT z r (.dat (.str [35])) r1)(h2:aT z r1 (.dat (.str [c])) r2)(tx:jH 120 88 c=true)(h3:aT z r2 (.dat (.str [e])) r3)(te:aZ true e=true)(h4:cD z r3 (.dat (.str [e])) r4)(r':Stm):Py z r r' st m al true r4:=λerrs v he hn=>by
 cases m with
 |txt d=>
  obtain rfl:al=.non:=ho
  show CallOk _ _ _ _ _ _ (TL r' st (.dead true d) (errs++[BI [v]]))
  exact Pq h1 h2 tx h3 te h4 he (b:=fD [v]) rfl hn
 |att x=>
  obtain⟨ac,rfl⟩:=ho
  exact Pw h1 ha sm h2 tx h3 te h4 he hn
theorem Jz (R:RplOk z.K)(sm:m.Small)(ho:m.alOk al)(ha:uU al (.str [35])=false)(h1:aT z r (.dat (.str [35])) r1)(at1:At' T true E r1 ms l)(h:oI l=some a):Px z T E r st m al a:=by
 cases l with
 |nil=>
  cases h
  obtain⟨r2,h2,a2⟩:=dU (z:=z) at1
  refine⟨r2,?_,a2.none⟩
  cases m with
  |txt d=>obtain rfl:al=.non:=ho;exact Pn h1 h2
  |att x=>obtain⟨ac,rfl⟩:=ho;exact Ps h1 ha sm h2
 |cons c t=>
  have h:(bif jH 120 88 c then FI c t else bif aZ false c then oH false (c::t)else some (([jC],[38,35]),c::t))=some a:=h
  have lt:=FK at1
  obtain⟨r2,h2,a2⟩:=bY (z:=z) at1
  cases tx:jH 120 88 c with
  |false=>
   obtain⟨r3,h3,a3⟩:=fA (z:=z) a2 lt (.inr ⟨rfl,rfl⟩)
   cases td:aZ false c with
   |true=>
    rw[tx,td]at h
    exact t9 R a3 td h (VH sm ho ha h1 h2 tx td h3)
   |false=>
    rw[tx,td]at h
    cases h
    refine⟨r3,?_,a3.none⟩
    cases m with
    |txt d=>obtain rfl:al=.non:=ho;exact VC h1 h2 h3 tx td
    |att x=>obtain⟨ac,rfl⟩:=ho;exact VG h1 ha sm h2 h3 tx td
  |true=>
   rw[tx]at h
   cases t with
   |nil=>
    cases h
    obtain⟨r3,h3,a3⟩:=dU (z:=z) a2
    refine⟨r3,?_,a3.none⟩
    cases m with
    |txt d=>obtain rfl:al=.non:=ho;exact Jx h1 h2 tx h3
    |att x=>obtain⟨ac,rfl⟩:=ho;exact Jy h1 ha sm h2 tx h3
   |cons e t=>
    have h:(bif aZ true e then oH true (e::t)else some (([jC],[38,35,c]),e::t))=some a:=h
    have lt:=FK a2
    obtain⟨r3,h3,a3⟩:=bY (z:=z) a2
    obtain⟨r4,h4,a4⟩:=fA (z:=z) a3 lt (.inr ⟨rfl,rfl⟩)
    cases te:aZ true e with
    |true=>
     rw[te]at h
     exact t9 R a4 te h (VI sm ho ha h1 h2 tx h3 te h4)
    |false=>
     rw[te]at h
     cases h
     refine⟨r4,?_,a4.none⟩
     cases m with
     |txt d=>obtain rfl:al=.non:=ho;exact Po h1 h2 tx h3 te h4
     |att x=>obtain⟨ac,rfl⟩:=ho;exact Pu h1 ha sm h2 tx h3 te h4
theorem Mi:∀ (p l:Nm),(mx p l).1.length≤p.length+l.length
 |p,[]=>A7 _
 |p,c::l=>by
  show(bif eB (p++[c])then mx (p++[c]) l else(p,c::l)).1.length≤_
  cases eB (p++[c])with
  |true=>exact A5 (Mi (p++[c]) l) (by rw[A2];show p.length+1+l.length≤p.length+(l.length+1);lia)
  |false=>exact Nat.le_add_right ..
theorem Mj {r:Stm}{ks:List V}:CL r st (JY m.ct) (m.x 0) (m.x 1) (m.x 2) [] al m.fa [38] ks []=CZ r st m [] al [38] (.lst ks) [] []:=by cases m <;>rfl
theorem rW (R:RplOk z.K)(sm:m.Small)(ho:m.alOk al)(at_:At' T true E r ms l)(h:c7 m.fa al l=some a):Px z T E r st m al a:=by
 cases l with
 |nil=>
  cases h
  obtain⟨r1,h1,a1⟩:=dU (z:=z) at_
  refine⟨r1,?_,a1.none⟩
  cases m with
  |txt d=>obtain rfl:al=.non:=ho;exact Pm h1
  |att x=>obtain⟨ac,rfl⟩:=ho;exact Pr h1 sm
 |cons c t=>
  have h:(bif eL al c then some (([],[38]),c::t)else bif nb [c] [35]then oI t else some (oG m.fa (mx [] (c::t)).1 (mx [] (c::t)).2,(mx [] (c::t)).2))=some a:=h
  have lt:=FK at_
  obtain⟨r1,h1,a1⟩:=bY (z:=z) at_
  cases ts:eL al c with
  |true=>
   rw[ts]at h
   cases h
   obtain⟨r2,h2,a2⟩:=fA (z:=z) a1 lt (.inr ⟨rfl,rfl⟩)
   refine⟨r2,?_,a2.none⟩
   cases t0:bF c with
   |true=>
    cases m with
    |txt d=>obtain rfl:al=.non:=ho;exact VA h1 h2 t0
    |att x=>obtain⟨ac,rfl⟩:=ho;exact VD h1 h2 sm t0
   |false=>cases t1:bU (.str [c]) [.non,.str [60],.str [38]]with
    |true=>
     cases m with
     |txt d=>obtain rfl:al=.non:=ho;exact VB h1 h2 t0 t1
     |att x=>obtain⟨ac,rfl⟩:=ho;exact VE h1 h2 sm t0 t1
    |false=>
     unfold eL at ts
     rw[t0,t1,Bool.false_or,Bool.false_or]at ts
     cases m with
     |txt d=>obtain rfl:al=.non:=ho;cases ts
     |att x=>obtain⟨ac,rfl⟩:=ho;exact VF h1 h2 sm t0 t1 ts
  |false=>
   obtain⟨t0,t1,t2⟩:=FM ts
   rw[ts]at h
   cases th:nb [c] [35]with
   |true=>
    rw[th]at h
    have e:=cL th
    have e':c=35:=e.symm
    subst e'
    exact Jz R sm ho t2 h1 a1 h
   |false=>
    rw[th]at h
    cases h
    obtain⟨r2,w,lf,k,q⟩:=Pe (z:=z) (st:=st) (cv:=JY m.ct) (a:=m.x 0) (b:=m.x 1) (d:=m.x 2) (al:=al) (fa:=m.fa) (out:=[38]) t c [] r1 _ a1 lt (by show 0+_≤_;lia)
    rw[Mj,Mj]at q
    obtain⟨r3,h3,a3⟩:=lf.un (z:=z)
    have ew:=lf.hd
    subst ew
    have lq:(mx [] (c::t)).1.length≤16000:=A5 (Mi [] (c::t)) (by show 0+(t.length+1)≤_;lia)
    have e13:(CZ r1 st m [] al [38] (.lst (aM [c])) [] []).length=13:=by cases m <;>rfl
    exact⟨r3,FH sm ho ⟨h1,i9 (by rw[e13];exact q),h3,t0,t1,λac e=>by rw[e]at t2;exact t2,th,lq⟩,a3⟩
end
end
section
section
variable {c:Cx}{n:Nat}{hp hp1:List O}{l:Nat}{ds:List D}
theorem FN {P:Params}{W:Wd}{h:Heap}(R:Rel P W hp h)(e:hp[l]?.bind O.dlE=some ds):Rel P W (hp.set l (.lst (dl ds))) h∧Ext W hp h W (hp.set l (.lst (dl ds))) h:=
 R.change (lV e) (λ_ _=>rfl) ((by rcases R.dls (lV e)with⟨vs,n,g,d⟩;exact .mk _ g (.mk vs n (R2.map (DRs.r2.mp d))))) λob ob' e1 e2 f=>by rw[e1]at e2;cases e2;exact f
theorem FO {f:Nat}{args:List V}{v:V}(h:CallOk c n f args hp v hp1)(e:hp1[l]?.bind O.dlE=some ds):CallOk c n f args hp v (hp1.set l (.lst (dl ds))):=
 ⟨h.fn,λA W s vals aa ha z hv=>codeAny_mono (h.run A W s vals aa ha z hv) λr s' q=>(by rcases q with⟨u,p⟩;exact .mk u ((by rcases p with⟨W',r,L,x⟩;exact(.mk W' (FN r e).1 ⟨L.e.trans (FN r e).2,L.g,L.o⟩ x))))⟩
end
noncomputable def FP (r:Stm)(st:Nat)(ct:CT)(q:List Tok):List O:=
 [.ins 762 1,.ns [(cZ,.ref 2),(c4,.dat .non),(bD,.dat (.boo false)),(aW,.dat (.lst [])),(d9,.mth st 0),(c6,.dat (.boo false)),(a7,JY ct),(cJ,.ref 6)],
  .ins 166 3,strE r 2 4 7,.ins 73 5,.ns [(dQ,.dat (.str r.text)),(b5,.dat (.int r.place))],.dls (q.map Tok.toD),.dls (Bd r.er)]++UV ct
theorem VJ (q:List Tok):dl (q.map Tok.toD)=q.map λt=>.dat t.toD:=List.map_map ..
section
variable {z:bS}{T:Nm}{E:Nat}{r r' r1:Stm}{st:Nat}{ct:CT}{ms l:Nm}{q:List Tok}{n f:Nat}{args:List V}{hp:List O}{v:V}{a:wM}
theorem Pz (h:CallOk z.c n f args hp v (TL r st ct q)):CallOk z.c n f args hp v (FP r st ct q):=tY (l:=6) (ds:=q.map Tok.toD) h (congrArg some (VJ q).symm)
theorem QA (h:CallOk z.c n f args hp v (FP r st ct q)):CallOk z.c n f args hp v (TL r st ct q):=by
 have k:=FO (l:=6) (ds:=q.map Tok.toD) h rfl
 rw[VJ]at k
 exact k
noncomputable def KA (ct:CT)(st:Nat)(l:Nm):Option Res:=match ct with
 |.dead p d=>match p with
  |true=>(c7 false .non l).map λa=>⟨true,st,.dead true d,a.1.1++[BI a.1.2],a.2⟩
  |false=>none
 |_=>none
noncomputable def wO (ct:CT)(l:Nm):Option Res:=KA ct 304 l
noncomputable def wP (ct:CT)(l:Nm):Option Res:=KA ct 318 l
theorem VK (R:RplOk z.K)(a:At' T true E r ms l):Exs z T E 311 ct r (wO ct l):=by
 unfold wO KA
 cases ct with
 |dead p d=>cases p with
  |true=>
   cases e:c7 false .non l with
   |none=>exact trivial
   |some b=>
    obtain⟨r',h,a'⟩:=rW (z:=z) (st:=311) (m:=.txt d) R trivial rfl a e
    have h:=Pz h
    exact .mk r' (QA (z.use (hp':=FP r' 304 (.dead true d) (b.1.1++[BI b.1.2])) (hs:=[.cal 283 6 aAj (.dat .non) (FP r' 311 (.dead true d) (b.1.1++[BI b.1.2]))]) (o:=.fz [] []) (g:=true) rfl (an h trivial) (by kernel_rfl))) a'
  |false=>exact trivial
 |_=>exact trivial
theorem VL (R:RplOk z.K)(a:At' T true E r ms l):Exs z T E 325 ct r (wP ct l):=by
 unfold wP KA
 cases ct with
 |dead p d=>cases p with
  |true=>
   cases e:c7 false .non l with
   |none=>exact trivial
   |some b=>
    obtain⟨r',h,a'⟩:=rW (z:=z) (st:=325) (m:=.txt d) R trivial rfl a e
    have h:=Pz h
    exact .mk r' (QA (z.use (hp':=FP r' 318 (.dead true d) (b.1.1++[BI b.1.2])) (hs:=[.cal 283 6 aAj (.dat .non) (FP r' 325 (.dead true d) (b.1.1++[BI b.1.2]))]) (o:=.fz [] []) (g:=true) rfl (an h trivial) (by kernel_rfl))) a'
  |false=>exact trivial
 |_=>exact trivial
noncomputable def wQ (st:Nat)(ac:Nat)(f:CT→Nm→Option Res)(ct:CT)(l:Nm):Option Res:=match l with
 | []=>none
 |c::t=>bif nb [c] [38]then(match ct with
  |.at_ v=>(c7 true (.str [ac]) t).map λa=>⟨true,st,.at_ (v++a.1.2),a.1.1,a.2⟩
  |_=>none)else f ct (c::t)
theorem rX {st ac:Nat}{f:CT→Nm→Option Res}(R:RplOk z.K)(sm:ct.Small)(a:At' T true E r ms l)(h:Exs z T E st ct r (f ct l))
  (p:∀ (v:Nm) (r1 r':Stm) (o:Nm) (q:List Tok),aT z r (.dat (.str [38])) r1→CallOk z.c 6 283 [.ref 0,.dat (.str [ac]),.dat (.boo true)] (TL r1 st (.at_ v) []) (.dat .non) (FP r' st (.at_ (v++o)) q)→CallOk z.c 8 st [.ref 0] (TL r st (.at_ v) []) (.dat (.boo true)) (FP r' st (.at_ (v++o)) q)):Exs z T E st ct r (wQ st ac f ct l):=by
 cases l with
 |nil=>exact trivial
 |cons c t=>
  refine iG (λe=>?_) (λ_=>h)
  have e':=cL e
  subst e'
  cases ct with
  |at_ v=>
   show Exs z T E st (.at_ v) r ((c7 true (.str [ac]) t).map _)
   cases e2:c7 true (.str [ac]) t with
   |none=>exact trivial
   |some b=>
    obtain⟨r1,h1,a1⟩:=bY (z:=z) a
    obtain⟨r',h2,a'⟩:=rW (z:=z) (st:=st) (m:=.att v) R sm ⟨ac,rfl⟩ a1 e2
    exact .mk r' (QA (p v r1 r' b.1.2 b.1.1 h1 (Pz h2))) a'
  |_=>exact trivial
theorem QB (R:RplOk z.K)(sm:ct.Small)(a:At' T true E r ms l):Exs z T E 563 ct r (wQ 563 34 wG ct l):=rX R sm a (Uf sm a) λv r1 r' o q h1 h2=>
 z.use (hs:=[aU r1 (.dat (.str [38])),.cal 283 6 aAj (.dat .non) (FP r' 563 (.at_ (v++o)) q)]) (o:=.fz [] []) (g:=true) rfl (an h2 (an h1 trivial)) (by kernel_rfl)
theorem QC (R:RplOk z.K)(sm:ct.Small)(a:At' T true E r ms l):Exs z T E 570 ct r (wQ 570 39 wH ct l):=rX R sm a (Ug sm a) λv r1 r' o q h1 h2=>
 z.use (hs:=[aU r1 (.dat (.str [38])),.cal 283 6 aAj (.dat .non) (FP r' 570 (.at_ (v++o)) q)]) (o:=.fz [] []) (g:=true) rfl (an h2 (an h1 trivial)) (by kernel_rfl)
theorem QD (R:RplOk z.K)(sm:ct.Small)(a:At' T true E r ms l):Exs z T E 577 ct r (wQ 577 62 wI ct l):=rX R sm a (Uh sm a) λv r1 r' o q h1 h2=>
 z.use (hs:=[aU r1 (.dat (.str [38])),.cal 283 6 aAj (.dat .non) (FP r' 577 (.at_ (v++o)) q)]) (o:=.fz [] []) (g:=true) rfl (an h2 (an h1 trivial)) (by kernel_rfl)
end
noncomputable def Yi:List (Nat×(CT→Nm→Option Res)):=[(304,EX),(311,wO),(318,EY),(325,wP),(353,Ea),(367,Eb),(374,EZ),(535,Ec),(542,Ed),(556,Ee),(563,wQ 563 34 wG),(570,wQ 570 39 wH),(577,wQ 577 62 wI),(584,Ef)]
noncomputable def sp (st:Nat)(ct:CT)(l:Nm):Option Res:=match nO Yi st with
 |some f=>f ct l
 |none=>none
noncomputable def AllP {α:Type}(P:α→Prop):List α→Prop
 | []=>True
 |x::r=>P x∧AllP P r
theorem AllP.at {α:Type}{P:α→Prop}:∀ {l:List α} {x:α},AllP P l→x∈l→P x
 |_::_,_,h,.head _=>h.1
 |_::_,_,h,.tail _ m=>AllP.at h.2 m
theorem VM {z:bS}{T:Nm}{E:Nat}{r:Stm}{ct:CT}{ms l:Nm}(R:RplOk z.K){st:Nat}{res:Res}(sm:ct.Small)(a:At' T true E r ms l)(h0:sp st ct l=some res):ExR z T E st ct r res:=by
 unfold sp at h0
 cases h:nO Yi st with
 |none=>rw[h]at h0;cases h0
 |some f=>
  rw[h]at h0
  have q:AllP (λy=>Exs z T E y.1 ct r (y.2 ct l)) Yi:=⟨UW a,VK R a,UX a,VL R a,UZ a,Ua a,UY a,Ub a,Uc sm a,Ue sm a,QB R sm a,QC R sm a,QD R sm a,Ui sm a,trivial⟩
  have w:Exs z T E st ct r (f ct l):=q.at (f8 h)
  rw[show f ct l=_ from h0]at w
  exact w
end
section
section
variable {c:Cx}{sc:aH}{n:Nat}{F:Fx}{hp hp1 hp2:List O}{l:Nat}{ds:List D}
theorem qH (us:List Stmt)(env:Env):∀ ts:List Stmt,execs (ts++us) env=(do match ← execs ts env with|.next=>execs us env|f=>pure f)
 | []=>(pure_bind ..).symm
 |t::ts=>by
  rw[List.cons_append,execs_cons,execs_cons,bind_assoc]
  refine congrArg (exec t env >>= ·) (funext λf=>?_)
  cases f with
  |next=>exact qH us env ts
  |_=>exact(pure_bind ..).symm
theorem rY {ts us:List Stmt}{fl:Fl}(h1:RX c sc n F hp ts .next hp1)(h2:RX c sc n F hp1 us fl hp2):RX c sc n F hp (ts++us) fl hp2:=λA W s env z=>by
 show wpAny _ _ (execs _ env) _ _ _
 rw[qH]
 exact wpAny_bind (h1.go z λW1 f s1 z1 L1 x1=>(show f=.next from x1)▸h9 L1 (h2 A W1 s1 env z1))
theorem Mk {ts:List Stmt}(h1:RX c sc n F hp ts .next hp1)(g:Gc hp.length hp1 hp2):RX c sc n F hp ts .next hp2:=λA W s env z=>
 wpAny_mono (h1.go z λW1 f s1 z1 L1 x1=>(by rcases yK z.a z1.a L1 g with⟨W2,z2,L2,_⟩;exact(.mk W2 z2.rel L2 x1:Post c c.FT W hp s .next hp2 f s1))) (λ_ _ q=>q) λ_ _ f=>f.elim
theorem Ml {t:Stmt}(h1:RS c sc n F hp t .next hp1)(g:Gc hp.length hp1 hp2):RS c sc n F hp t .next hp2:=λA W s env z=>
 wpAny_mono (h1.go z λW1 f s1 z1 L1 x1=>(by rcases yK z.a z1.a L1 g with⟨W2,z2,L2,_⟩;exact(.mk W2 z2.rel L2 x1:Post c c.FT W hp s .next hp2 f s1))) (λ_ _ q=>q) λ_ _ f=>f.elim
theorem qI {k:Nat}{fz τ:List Nat}{hp hp':List O}{v:V}(h:g7 k fz τ (.dat .non) hp=some (v,hp')):Gc k hp hp':=.fold h
end
noncomputable def Zo (t:Nm):List O:=
 [.ns [(cZ,.ref 3),(c4,.dat .non),(bD,.dat (.boo false)),(aW,.dat (.lst [])),(d9,.mth 304 1),(c6,.dat (.boo false)),(a7,.dat .non)],.ins 762 0,
  strE ⟨t,0,[],0,none,0,0,0⟩ 3 5 6,.ins 166 2,.ns [(dQ,.dat (.str t)),(b5,.dat (.int 0))],.ins 73 4,.dls []]
section
variable (z:bS){t:Nm}
noncomputable abbrev tk0 (t:Nm):List O:=[.ns [(cZ,.ref 3),(c4,.dat .non),(bD,.dat (.boo false)),(aW,.dat (.lst [])),(d9,.mth 304 1),(c6,.dat (.boo false)),(a7,.dat .non)],.ins 762 0,
  strE ⟨t,0,[],0,none,0,0,0⟩ 3 5 6,.ins 166 2,.ns [(dQ,.dat (.str t)),(b5,.dat (.int 0))],.ins 73 4,.lst []]
theorem VN:CallOk z.c 8 261 [.ref 1,.dat (.str t)] [.ns [],.ins 762 0] (.dat .non) (Zo t):=
 tY (l:=6) (ds:=[]) (z.use (hp':=tk0 t) (hs:=[]) (o:=.fz [6,13] [3,4,8,9,12]) (g:=true) rfl trivial (by kernel_rfl)) rfl
end
theorem FR {α β γ:Type}{f:α→β→γ}{a a':α}{b b':β}(h:a=a')(k:b=b'):f a b=f a' b':=by subst h;subst k;rfl
section
variable {P:Nat→Bool}{r:Nat→V}{k:Nat→Nat}(h:∀ l,P l=true→r l=.ref l∧k l=l)
include h
theorem V.fix:∀ {v:V},v.cl P=true→v.mp r k=v
 |.ref _,c=>(h _ c).1
 |.mth f _,c=>congrArg (V.mth f) (h _ c).2
 |.dat _,_|.top _,_|.blt _,_|.typ _,_|.rng _ _,_=>rfl
theorem Vs.fix:∀ {vs:List V},vs.all (V.cl P)=true→vs.map (V.mp r k)=vs
 | [],_=>rfl
 |_::_,c=>FR (f:=List.cons) (V.fix h (A0 c).1) (Vs.fix (A0 c).2)
theorem Es.fix:∀ {es:List (Nm×V)},(es.all λx=>x.2.cl P)=true→XB r k es=es
 | [],_=>rfl
 |(x,_)::_,c=>FR (f:=List.cons) (congrArg (Prod.mk x) (V.fix h (A0 c).1)) (Es.fix (A0 c).2)
theorem O.fix:∀ {o:O},o.cl P=true→o.mp r k=o
 |.lst _,c=>congrArg O.lst (Vs.fix h c)
 |.tup _,c=>congrArg O.tup (Vs.fix h c)
 |.ns _,c=>congrArg O.ns (Es.fix h c)
 |.fr _,c=>congrArg O.fr (Es.fix h c)
 |.cel none,_=>rfl
 |.cel (some _),c=>congrArg (λv=>O.cel (some v)) (V.fix h c)
 |.ins _ _,c=>congrArg (O.ins _) (h _ c).2
 |.dls _,_=>rfl
 |.gone,_=>rfl
end
theorem V.cl_imp {P Q:Nat→Bool}(h:∀ l,P l=true→Q l=true):∀ {v:V},v.cl P=true→v.cl Q=true
 |.ref _,c=>h _ c
 |.mth _ _,c=>h _ c
 |.dat _,_|.top _,_|.blt _,_|.typ _,_|.rng _ _,_=>rfl
theorem O.cl_imp {P Q:Nat→Bool}(h:∀ l,P l=true→Q l=true):∀ {o:O},o.cl P=true→o.cl Q=true
 |.lst _,c=>List.all_eq_true.mpr λx m=>V.cl_imp h (List.all_eq_true.mp c x m)
 |.tup _,c=>List.all_eq_true.mpr λx m=>V.cl_imp h (List.all_eq_true.mp c x m)
 |.ns _,c=>List.all_eq_true.mpr λx m=>V.cl_imp h (List.all_eq_true.mp c x m)
 |.fr _,c=>List.all_eq_true.mpr λx m=>V.cl_imp h (List.all_eq_true.mp c x m)
 |.cel none,_=>rfl
 |.cel (some _),c=>V.cl_imp h c
 |.ins _ _,c=>h _ c
 |.dls _,_=>rfl
 |.gone,_=>rfl
noncomputable def Zp (l:Nat):Bool:=Nat.blt l 11
noncomputable def ltL (l:Nat):Bool:=Nat.blt l 15
theorem wR {a b:Nat}(h:Nat.blt a b=true):a<b:=A3 h
noncomputable abbrev ks:List Nat:=[0,1,2,3,4,5,6,7,8,9,10,11,12,13,14]
structure Q3 where
 a:O
 b:O
 c:O
noncomputable def pL:CT→V
 |.dead _ d=>.dat d
 |_=>.ref 12
noncomputable def VO:O:=.ns [(n6,.dat (.int 3)),(fT,.dat (.str tQ)),(lC,.ref 13),(fU,.dat (.boo false)),(bX,.dat (.boo false))]
noncomputable def o7:CT→Q3
 |.dead _ _=>⟨.gone,.gone,.gone⟩
 |.tg=>⟨VO,.lst [],.gone⟩
 |.at_ v=>⟨VO,.lst [.ref 14],.lst [.dat (.str MX),.dat (.str v)]⟩
noncomputable def Mm (q:List Tok):List V:=q.map λt=>.dat t.toD
noncomputable def FS (fs ts:List D)(r:Stm)(st:Nat)(c:V)(oQ:O)(o:Q3):List O:=
 [.dls fs,.dls ts,
  .ns [(cZ,.ref 6),(c4,.dat .non),(bD,.dat (.boo false)),(aW,.dat (.lst [])),(d9,.mth st 4),(c6,.dat (.boo false)),(a7,c),(cJ,.ref 11)],.ins 762 3,
  strE r 6 8 9,.ins 166 5,.ns [(dQ,.dat (.str r.text)),(b5,.dat (.int r.place))],.ins 73 7,.dls (Bd r.er),.fr [(d8,.ref 4)],oQ,o.a,o.b,o.c]
noncomputable def kL (fr:List (Nm×V))(fs ts:List D)(r:Stm)(st:Nat)(c:V)(Q:List V)(o:Q3):List O:=.fr fr::FS fs ts r st c (.lst Q) o
noncomputable def Lo (o:O):Prop:=o.cl Zp=true
theorem zF (f:Nat→Bool):∀ a:List Tok,(Mm a).all (V.cl f)=true
 | []=>rfl
 |_::r=>zF f r
noncomputable def gI:GenX:=YH (iM iO Aw.2 []).body
noncomputable def gN:aH:=(iM iO Aw.2 []).names
noncomputable def aL:Fn:=iM iO [36] []
noncomputable def wS:ForI:=Di (bV aL.body 13)
noncomputable abbrev GF:Fx:=⟨10,[],false⟩
noncomputable abbrev LX:Fx:=⟨0,[],true⟩
inductive Tr:CT→CT→Prop
 |dd (p:Bool) (a b:D):Tr (.dead p a) (.dead p b)
 |dt (a:D):Tr (.dead false a) .tg
 |tt:Tr .tg .tg
 |ta (v:Nm):Tr .tg (.at_ v)
 |aa (v w:Nm):Tr (.at_ v) (.at_ w)
 |ad (v:Nm) (a:D):Tr (.at_ v) (.dead true a)
noncomputable def KB (ct ct':CT):Option (PLift (Tr ct ct')):=match ct,ct' with
 |.dead true a,.dead true b=>some ⟨.dd true a b⟩
 |.dead false a,.dead false b=>some ⟨.dd false a b⟩
 |.dead false a,.tg=>some ⟨.dt a⟩
 |.tg,.tg=>some ⟨.tt⟩
 |.tg,.at_ v=>some ⟨.ta v⟩
 |.at_ v,.at_ w=>some ⟨.aa v w⟩
 |.at_ v,.dead true a=>some ⟨.ad v a⟩
 |_,_=>none
noncomputable abbrev s8 (l:List Nat):List Nat:=[4,3,6,5,8,7,11,9]++l
noncomputable def FU:CT→List Nat
 |.dead p _=>match p with
  |true=>s8 [12,13,14]
  |false=>s8 []
 |.tg=>s8 [12,13]
 |.at_ _=>s8 [12,13,14]
noncomputable def Yj (r:Stm)(st:Nat)(ct:CT)(oQ:O):List O:=
 [.ins 762 1,.ns [(cZ,.ref 2),(c4,.dat .non),(bD,.dat (.boo false)),(aW,.dat (.lst [])),(d9,.mth st 0),(c6,.dat (.boo false)),(a7,JY ct),(cJ,.ref 6)],
  .ins 166 3,strE r 2 4 7,.ins 73 5,.ns [(dQ,.dat (.str r.text)),(b5,.dat (.int r.place))],oQ,.dls (Bd r.er)]++UV ct
structure Dt (o:O):Prop where
 cl:∀ f,o.cl f=true
 ren:∀ k,o.ren k=o
theorem QE (q:List Tok):Dt (.lst (Mm q)):=⟨λf=>zF f q,λk=>congrArg O.lst (by
 induction q with
 |nil=>rfl
 |cons t q ih=>exact congrArg (_::·) ih)⟩
section
variable {o0 oQ:O}{fs ts:List D}{r r1:Stm}{st st':Nat}{ct ct':CT}{c':V}{q':Q3}
noncomputable abbrev oJ (τ:List Nat):List Nat:=List.range 11++τ
theorem VP (τ:List Nat){hp:List O}{k:Nat→Nat}(h0:Lo o0)(hq:Dt oQ)(hs:∀ l<11,fF (oJ τ) l=true∧kr (oJ τ) l=l)(nd:Lu (oJ τ)=true)
  (e1:gE (oJ τ) hp=(o0.cl (fF (oJ τ))&&((oQ.ren k).cl (fF (oJ τ))&&true)))(e2:kept (oJ τ) hp=o0.ren (kr (oJ τ))::FS fs ts r1 st' c' ((oQ.ren k).ren (kr (oJ τ))) q'):
  Gc 11 hp (o0::FS fs ts r1 st' c' oQ q'):=by
 have fx:o0.ren (kr (oJ τ))=o0:=O.fix (P:=Zp) (λl w=>⟨congrArg V.ref (hs l (wR w)).2,(hs l (wR w)).2⟩) h0
 have cl:o0.cl (fF (oJ τ))=true:=O.cl_imp (λl w=>(hs l (wR w)).1) h0
 rw[cl,hq.ren,hq.cl]at e1
 rw[fx,hq.ren,hq.ren]at e2
 refine .fold (fz:=[]) (τ:=τ) (v:=.dat .non) ?_
 show(match Lu (oJ τ)&&((V.dat D.non).cl (fF (oJ τ))&&gE (oJ τ) hp)with|true=>_|false=>_)=_
 rw[nd,e1]
 show some (V.dat .non,kept _ _)=_
 rw[e2]
noncomputable def τF:CT→CT→List Nat
 |.dead _ _,.tg=>[11,15,16,14]
 |.tg,.at_ _=>[11,12,13,15]
 |_,_=>[11,12,13,14]
structure MidOk (o0 oQ:O) (fs ts:List D) (r r1:Stm) (st st':Nat) (ct ct':CT):Prop where
 hs:(List.range 11).map (λl=>(fF (oJ (τF ct ct')) l,kr (oJ (τF ct ct')) l))=(List.range 11).map λl=>(true,l)
 nd:Lu (oJ (τF ct ct'))=true
 e1:gE (oJ (τF ct ct')) (fY (FU ct) (o0::FS fs ts r st (pL ct) (.lst []) (o7 ct)) (Yj r1 st' ct' oQ))=(o0.cl (fF (oJ (τF ct ct')))&&((oQ.ren (rn (FU ct) 15)).cl (fF (oJ (τF ct ct')))&&true))
 e2:kept (oJ (τF ct ct')) (fY (FU ct) (o0::FS fs ts r st (pL ct) (.lst []) (o7 ct)) (Yj r1 st' ct' oQ))=o0.ren (kr (oJ (τF ct ct')))::FS fs ts r1 st' (pL ct') ((oQ.ren (rn (FU ct) 15)).ren (kr (oJ (τF ct ct')))) (o7 ct')
 i1:Rt (FU ct) [.ref 4] (o0::FS fs ts r st (pL ct) (.lst []) (o7 ct))=true
 i2:kept (FU ct) (o0::FS fs ts r st (pL ct) (.lst []) (o7 ct))=TL r st ct []
 i3:[V.ref 4].map (V.ren (kr (FU ct)))=[.ref 0]
theorem FW (t:Tr ct ct'):MidOk o0 oQ fs ts r r1 st st' ct ct':=by
 cases t with
 |dd p a b=>cases p <;>exact⟨by kernel_rfl,by kernel_rfl,by kernel_rfl,by kernel_rfl,by kernel_rfl,by kernel_rfl,by kernel_rfl⟩
 |_=>exact⟨by kernel_rfl,by kernel_rfl,by kernel_rfl,by kernel_rfl,by kernel_rfl,by kernel_rfl,by kernel_rfl⟩
theorem QF (h0:Lo o0)(hq:Dt oQ)(t:Tr ct ct'):Gc 11 (fY (FU ct) (o0::FS fs ts r st (pL ct) (.lst []) (o7 ct)) (Yj r1 st' ct' oQ)) (o0::FS fs ts r1 st' (pL ct') oQ (o7 ct')):=
 have q:MidOk o0 oQ fs ts r r1 st st' ct ct':=FW t
 VP (τF ct ct') (k:=rn (FU ct) 15) h0 hq (λl lt=>have w:=List.map_inj_left.mp q.hs l (List.mem_range.mpr lt);⟨congrArg (·.1) w,congrArg (·.2) w⟩) q.nd q.e1 q.e2
theorem QG (h:(KB ct ct').isSome=true):Tr ct ct':=match KB ct ct',h with
 |some ⟨t⟩,_=>t
end
section
variable {z:bS}{fr:List (Nm×V)}{fs ts:List D}{r:Stm}{st:Nat}{ct:CT}{T:Nm}{E:Nat}{c:V}{Q:List V}{o:Q3}
theorem QH {σ:List Nat}{b:Bool}{hpS:List O}(hin:Rt σ [.ref 4] (kL fr fs ts r st c Q o)=true)(h:CallOk z.c 8 st ([V.ref 4].map (V.ren (kr σ))) (kept σ (kL fr fs ts r st c Q o)) (.dat (.boo b)) hpS):
  RB z.c gN 8 GF (kL fr fs ts r st c Q o) gI.t.t1 b (fY σ (kL fr fs ts r st c Q o) hpS):=
 z.useT (hs:=[.nxt 8 σ (.dat (.boo b)) hpS]) (g:=cg [(true,Rt σ [.ref 4] (kL fr fs ts r st c Q o))]) (aB hin aG) (an h trivial) (by kernel_rfl)
theorem Yk (h:r.er=0):RB z.c gN 8 GF (kL fr fs ts r st c Q o) gI.t.t2 false (kL fr fs ts r st c Q o):=by
 obtain⟨a,b,c',d,e,f,g,n⟩:=r
 obtain rfl:n=0:=h
 exact z.useT (hs:=[]) (g:=true) rfl trivial (by kernel_rfl)
theorem Yl:RB z.c gN 8 GF (kL fr fs ts r st c [] o) gI.t.t3 false (kL fr fs ts r st c [] o):=z.useT (hs:=[]) (g:=true) rfl trivial (by kernel_rfl)
theorem Ym {d:V}(h:Nat.ble (Q.length+1) lim=true):RB z.c gN 8 GF (kL fr fs ts r st c (d::Q) o) gI.t.t3 true (kL fr fs ts r st c (d::Q) o):=z.useT (hs:=[]) (g:=cg [(true,Nat.ble (Q.length+1) lim)]) (aB h aG) trivial (by kernel_rfl)
theorem VQ {d:V}(h:Nat.ble (Q.length+1) lim=true):RE z.c gN 8 GF (kL fr fs ts r st c (d::Q) o) gI.t.e3 d (kL fr fs ts r st c Q o):=z.useE (hs:=[]) (g:=cg [(true,Nat.ble (Q.length+1) lim)]) (aB h aG) trivial (by kernel_rfl)
theorem KC {res:Res}(h0:Lo (.fr fr))(t:Tr ct res.ct)(e:ExR z T E st ct r res):∃ r1 hp1,At' T true E r1 [] res.rest∧RB z.c gN 8 GF (kL fr fs ts r st (pL ct) [] (o7 ct)) gI.t.t1 res.more hp1∧Gc 11 hp1 (kL fr fs ts r1 res.st (pL res.ct) (Mm res.out) (o7 res.ct)):=by
 rcases e with⟨r1,h,a⟩
 have i:MidOk (.fr fr) (.lst (Mm res.out)) fs ts r r1 st res.st ct res.ct:=FW t
 exact⟨r1,_,a,QH (Q:=[]) (o:=o7 ct) (σ:=FU ct) i.i1 (i.i3.symm ▸ (show CallOk z.c 8 st [.ref 0] (kept (FU ct) (.fr fr::FS fs ts r st (pL ct) (.lst []) (o7 ct))) _ _ from i.i2.symm▸h)),QF h0 (QE _) t⟩
end
end
section
noncomputable def Bg:Nm:=[110]
noncomputable def iH:Nm:=[115,112,101,108,108,101,100]
noncomputable def oK:Nm:=[116,111,108,100]
noncomputable def r6:Nm:=[116,111,107,101,110]
noncomputable def FX:Nm:=[107,105,110,100]
noncomputable def cF:Nm:=[115,99,114,105,112,116]
noncomputable def dW:Nm:=[110,117,109,98,101,114,115]
noncomputable def gC:Nm:=[119,114,105,116,116,101,110]
noncomputable def uA:Nm:=[100,117,101]
noncomputable def mT:Nm:=[115,105,103,110,115]
noncomputable def bP:Nm:=[114,101,97,100,101,114]
noncomputable def Mn:Nm:=[103,111,116]
noncomputable def uB:Nm:=[102,97,117,108,116,115]
noncomputable def FY:Nm:=[116,97,103,115]
structure Fr where
 sD:D
 nD:D
 pD:D
 wD:D
 dD:D
 j:Option (D×D×D)
 tx:Nm
 sg:Nm
noncomputable def jsL:Option (D×D×D)→List (Nm×V)
 |none=>[]
 |some a=>[(Bg,.dat a.1),(iH,.dat a.2.1),(oK,.dat a.2.2)]
noncomputable def KD:Option (D×D)→List (Nm×V)
 |none=>[]
 |some a=>[(r6,.dat a.1),(FX,.dat a.2)]
noncomputable def Rz (d:D):Option (D×D)→List (Nm×V)
 |none=>[(r6,.dat d)]
 |some a=>[(r6,.dat d),(FX,.dat a.2)]
noncomputable def Fr.b (f:Fr)(got:Nm)(eo:List (Nm×V)):List (Nm×V):=
 [(cF,.dat f.sD),(dW,.dat f.nD),(b5,.dat f.pD),(gC,.dat f.wD),(uA,.dat f.dD)]++jsL f.j++[(dQ,.dat (.str f.tx)),(mT,.dat (.str f.sg)),(bP,.ref 4),(Mn,.dat (.str got)),(uB,.ref 1),(FY,.ref 2)]++eo
noncomputable def KF (v:Nm):D:=.tup [.str tQ,.dct [(MX,.str v)],.boo false]
structure Acc where
 got:Nm
 fs:List Nm
 ts:List Nm
 ro:Option (D×D)
noncomputable abbrev o8 (fs:List Nm):List D:=fs.map D.str
noncomputable abbrev HK (ts:List Nm):List D:=ts.map KF
noncomputable def AL (f:Fr)(a:Acc)(r:Stm)(st:Nat)(c:V)(Q:List V)(o:Q3):List O:=kL (f.b a.got (KD a.ro)) (o8 a.fs) (HK a.ts) r st c Q o
noncomputable def Acc.tok (a:Acc):Tok→Acc
 |.err w=>⟨a.got,a.fs++[w],a.ts,some ((Tok.err w).toD,.int 7)⟩
 |.chr1 x=>⟨a.got++x,a.fs,a.ts,some ((Tok.chr1 x).toD,.int 1)⟩
 |.chr2 x=>⟨a.got++x,a.fs,a.ts,some ((Tok.chr2 x).toD,.int 2)⟩
 |.stag v=>⟨a.got,a.fs,a.ts++[v],some ((Tok.stag v).toD,.int 3)⟩
noncomputable def r7:Tok→Nat
 |.chr1 x=>x.length
 |.chr2 x=>x.length
 |_=>0
noncomputable def dJ:List Tok→Nat
 | []=>0
 |t::q=>r7 t+dJ q
theorem lL:∀ a b:List Tok,dJ (a++b)=dJ a+dJ b
 | [],b=>(Nat.zero_add _).symm
 |t::a,b=>by show r7 t+dJ (a++b)=r7 t+dJ a+dJ b;rw[lL a b,Nat.add_assoc]
structure Lim (a:Acc) (q:List Tok):Prop where
 g:a.got.length+dJ q≤90000
 f:a.fs.length+q.length≤90000
 t:a.ts.length+q.length≤90000
theorem Lim.tok {a:Acc}{t:Tok}{q:List Tok}(h:Lim a (t::q)):Lim (a.tok t) q:=by
 have g:a.got.length+(r7 t+dJ q)≤90000:=h.g
 have f:a.fs.length+(q.length+1)≤90000:=h.f
 have e:a.ts.length+(q.length+1)≤90000:=h.t
 cases t with
 |err w=>exact⟨by show a.got.length+dJ q≤_;have g:a.got.length+(0+dJ q)≤90000:=g;lia,by show(a.fs++[w]).length+_≤_;rw[A2];show a.fs.length+1+_≤_;lia,by show a.ts.length+_≤_;lia⟩
 |chr1 x=>exact⟨by show(a.got++x).length+dJ q≤_;have g:a.got.length+(x.length+dJ q)≤90000:=g;rw[A2];lia,by show a.fs.length+_≤_;lia,by show a.ts.length+_≤_;lia⟩
 |chr2 x=>exact⟨by show(a.got++x).length+dJ q≤_;have g:a.got.length+(x.length+dJ q)≤90000:=g;rw[A2];lia,by show a.fs.length+_≤_;lia,by show a.ts.length+_≤_;lia⟩
 |stag v=>exact⟨by show a.got.length+dJ q≤_;have g:a.got.length+(0+dJ q)≤90000:=g;lia,by show a.fs.length+_≤_;lia,by show(a.ts++[v]).length+_≤_;rw[A2];show a.ts.length+1+_≤_;lia⟩
theorem VS {n:Nat}(h:n≤90000):Nat.ble n lim=true:=A4 (A5 h (A3 rfl))
section
variable {z:bS}{sD nD pD wD dD:D}{j:Option (D×D×D)}{tx sg:Nm}{got:Nm}{fs ts:List D}{ro:Option (D×D)}{r:Stm}{st:Nat}{c:V}{Q:List V}{o:Q3}
noncomputable abbrev FL (sD nD pD wD dD:D)(j:Option (D×D×D))(tx sg got:Nm)(eo:List (Nm×V)):List (Nm×V):=(Fr.mk sD nD pD wD dD j tx sg).b got eo
theorem QI {d:D}:RG z.c aL.names 13 LX (kL (FL sD nD pD wD dD j tx sg got (KD ro)) fs ts r st c Q o) wS.g (.dat d) (kL (FL sD nD pD wD dD j tx sg got (Rz d ro)) fs ts r st c Q o):=
 dL (by kernel_rfl) (by cases j <;>cases ro <;>kernel_rfl)
noncomputable abbrev VU (z:bS)(hp hp':List O):Prop:=RX z.c aL.names 13 LX hp wS.b .next hp'
theorem VV {w:Nm}(h:Nat.ble fs.length lim=true):VU z (kL (FL sD nD pD wD dD j tx sg got (Rz (Tok.err w).toD ro)) fs ts r st c Q o) (kL (FL sD nD pD wD dD j tx sg got (KD (some ((Tok.err w).toD,.int 7)))) (fs++[.str w]) ts r st c Q o):=
 z.useX (hs:=[]) (g:=cg [(true,Nat.ble fs.length lim)]) (aB h aG) trivial (by cases j <;>cases ro <;>kernel_rfl)
theorem Yn {x:Nm}(h:Nat.ble (got.length+x.length) lim=true):VU z (kL (FL sD nD pD wD dD j tx sg got (Rz (Tok.chr1 x).toD ro)) fs ts r st c Q o) (kL (FL sD nD pD wD dD j tx sg (got++x) (KD (some ((Tok.chr1 x).toD,.int 1)))) fs ts r st c Q o):=
 z.useX (hs:=[]) (g:=cg [(true,Nat.ble (got.length+x.length) lim)]) (aB h aG) trivial (by cases j <;>cases ro <;>kernel_rfl)
theorem Yo {x:Nm}(h:Nat.ble (got.length+x.length) lim=true):VU z (kL (FL sD nD pD wD dD j tx sg got (Rz (Tok.chr2 x).toD ro)) fs ts r st c Q o) (kL (FL sD nD pD wD dD j tx sg (got++x) (KD (some ((Tok.chr2 x).toD,.int 2)))) fs ts r st c Q o):=
 z.useX (hs:=[]) (g:=cg [(true,Nat.ble (got.length+x.length) lim)]) (aB h aG) trivial (by cases j <;>cases ro <;>kernel_rfl)
theorem Yp {v:Nm}(h:Nat.ble ts.length lim=true):VU z (kL (FL sD nD pD wD dD j tx sg got (Rz (Tok.stag v).toD ro)) fs ts r st c Q o) (kL (FL sD nD pD wD dD j tx sg got (KD (some ((Tok.stag v).toD,.int 3)))) fs (ts++[KF v]) r st c Q o):=
 z.useX (hs:=[]) (g:=cg [(true,Nat.ble ts.length lim)]) (aB h aG) trivial (by cases j <;>cases ro <;>kernel_rfl)
end
section
variable {z:bS}{f:Fr}{a:Acc}{r:Stm}{st:Nat}{ct:CT}{hpE:List O}{m:Nat}{c:V}{Q:List V}{o:Q3}
theorem QJ (t:Tok)(L:Lim a [t]):VU z (kL (f.b a.got (Rz t.toD a.ro)) (o8 a.fs) (HK a.ts) r st c Q o) (AL f (a.tok t) r st c Q o):=by
 obtain⟨sD,nD,pD,wD,dD,j,tx,sg⟩:=f
 obtain⟨got,fs,ts,ro⟩:=a
 have g:got.length+(r7 t+0)≤90000:=L.g
 have f:fs.length+1≤90000:=L.f
 have e:ts.length+1≤90000:=L.t
 cases t with
 |err w=>
  have h:=VV (z:=z) (sD:=sD) (nD:=nD) (pD:=pD) (wD:=wD) (dD:=dD) (j:=j) (tx:=tx) (sg:=sg) (got:=got) (fs:=o8 fs) (ts:=HK ts) (ro:=ro) (r:=r) (st:=st) (c:=c) (Q:=Q) (o:=o) (w:=w) (VS (by rw[List.length_map];lia))
  rw[show o8 fs++[D.str w]=o8 (fs++[w]) by rw[o8,o8,List.map_append];rfl]at h
  exact h
 |chr1 x=>exact Yn (VS (by have g:got.length+(x.length+0)≤90000:=g;lia))
 |chr2 x=>exact Yo (VS (by have g:got.length+(x.length+0)≤90000:=g;lia))
 |stag v=>
  have h:=Yp (z:=z) (sD:=sD) (nD:=nD) (pD:=pD) (wD:=wD) (dD:=dD) (j:=j) (tx:=tx) (sg:=sg) (got:=got) (fs:=o8 fs) (ts:=HK ts) (ro:=ro) (r:=r) (st:=st) (c:=c) (Q:=Q) (o:=o) (v:=v) (VS (by rw[List.length_map];lia))
  rw[show HK ts++[KF v]=HK (ts++[v]) by rw[HK,HK,List.map_append];rfl]at h
  exact h
noncomputable abbrev CO (z:bS):V→List O→(List O→Prop)→Prop:=Cons z.c aL.names 13 LX wS.g wS.b 11
noncomputable abbrev NXx (z:bS)(hpE:List O)(m:Nat)(p:Pt)(hp:List O):Prop:=Nx (CO z) hpE z.c gN 8 GF gI.t 11 m p hp
noncomputable abbrev PX (z:bS)(hpE:List O)(m k:Nat)(p:Pt)(hp:List O):Prop:=vT z.c gN 8 GF gI.t 11 (YM (CO z) hpE z.c gN 8 GF gI.t 11 m) hpE k p hp
theorem VW {p:Pt}{hp:List O}(h:∃ k,PX z hpE m k p hp):NXx z hpE m p hp:=(MJ (c:=z.c) (gs:=gN) (ng:=8) (gF:=GF) (T:=gI.t) (base:=11) (CO z) hpE m p hp).mpr h
theorem QK {t:Tok}(L:Lim a [t]){P:List O→Prop}(h:P (AL f (a.tok t) r st c Q o)):CO z (.dat t.toD) (AL f a r st c Q o) P:=
 .mk (QI (sD:=f.sD) (nD:=f.nD) (pD:=f.pD) (wD:=f.wD) (dD:=f.dD) (j:=f.j) (tx:=f.tx) (sg:=f.sg)) (QJ t L) rfl .id h
noncomputable def Acc.toks (a:Acc):List Tok→Acc
 | []=>a
 |t::q=>(a.tok t).toks q
theorem KG {t:Tok}{q:List Tok}(h:Lim a (t::q)):Lim a [t]:=by
 have g:a.got.length+(r7 t+dJ q)≤90000:=h.g
 have f:a.fs.length+(q.length+1)≤90000:=h.f
 have e:a.ts.length+(q.length+1)≤90000:=h.t
 exact⟨by show a.got.length+(r7 t+0)≤_;lia,by show a.fs.length+1≤_;lia,by show a.ts.length+1≤_;lia⟩
theorem zG:∀ (q:List Tok) (a:Acc),Lim a q→(∃ kk,PX z hpE m kk .o (AL f (a.toks q) r st (pL ct) [] (o7 ct)))→∃ kk,PX z hpE (q.length+m) kk .b (AL f a r st (pL ct) (Mm q) (o7 ct))
 | [],a,_,⟨k,h⟩=>⟨k+1,by rw[List.length_nil,Nat.zero_add];exact .pass (by intro e;cases e) Yl h⟩
 |t::q,a,L,h=>by
  have hl:Nat.ble ((Mm q).length+1) lim=true:=VS (by rw[Mm,List.length_map];have:=L.f;rw[B3]at this;lia)
  have ih:=zG q (a.tok t) L.tok h
  refine⟨1,?_⟩
  rw[B3,Nat.add_right_comm]
  exact .yld (by intro e;cases e) (Ym hl) (VQ hl) (QK (KG L) (VW ih))
end
end
section
noncomputable def CT.smallB:CT→Bool
 |.at_ v=>Nat.ble v.length 1000
 |_=>true
theorem CT.small_of {ct:CT}(h:ct.smallB=true):ct.Small:=match ct,h with
 |.at_ _,h=>A3 h
 |.dead _ _,_=>trivial
 |.tg,_=>trivial
noncomputable def uC (l:Nm)(z:Res):Option (List Tok):=match l,z.out,z.rest with
 | [],[],[]=>some []
 |_,_,_=>none
noncomputable def run:Nat→Nat→CT→Nm→Option (List Tok)
 |0,_,_,_=>none
 |k+1,st,ct,l=>match ct.smallB with
  |false=>none
  |true=>match sp st ct l with
   |none=>none
   |some z=>match(KB ct z.ct).isSome with
    |false=>none
    |true=>match z.more with
     |false=>uC l z
     |true=>(run k z.st z.ct z.rest).map (z.out++·)
inductive RunN (k:Nat):Nm→Res→List Tok→Prop
 |stop {st:Nat} {ct:CT}:RunN k [] ⟨false,st,ct,[],[]⟩ []
 |go {l:Nm} {st:Nat} {ct:CT} {out q:List Tok} {rest:Nm} (e:run k st ct rest=some q):RunN k l ⟨true,st,ct,out,rest⟩ (out++q)
structure RunT (k st:Nat) (ct:CT) (l:Nm) (q:List Tok) (x:Res):Prop where
 sm:ct.smallB=true
 sp:sp st ct l=some x
 tr:(KB ct x.ct).isSome=true
 go:RunN k l x q
theorem FZ {k:Nat}{l:Nm}{st:Nat}{ct:CT}{out q:List Tok}{rest:Nm}(h:uC l ⟨false,st,ct,out,rest⟩=some q):RunN k l ⟨false,st,ct,out,rest⟩ q:=by
 unfold uC at h
 cases l with
 |cons _ _=>cases h
 |nil=>cases out with
  |cons _ _=>cases h
  |nil=>cases rest with
   |cons _ _=>cases h
   |nil=>cases h;exact .stop
theorem Fa {k st:Nat}{ct:CT}{l:Nm}{q:List Tok}(h:run (k+1) st ct l=some q):∃ x,RunT k st ct l q x:=by
 have h:(match ct.smallB with|false=>none|true=>match Tk.sp st ct l with|none=>none|some z=>match(KB ct z.ct).isSome with|false=>none|true=>match z.more with|false=>uC l z|true=>(run k z.st z.ct z.rest).map (z.out++·))=some q:=h
 cases sm:ct.smallB with
 |false=>rw[sm]at h;cases h
 |true=>
  rw[sm]at h
  cases es:Tk.sp st ct l with
  |none=>rw[es]at h;cases h
  |some x=>
   rw[es]at h
   dsimp only at h
   cases ht:(KB ct x.ct).isSome with
   |false=>rw[ht]at h;cases h
   |true=>
    rw[ht]at h
    refine⟨x,sm,es,ht,?_⟩
    obtain⟨more,st',ct',out,rest⟩:=x
    cases more with
    |false=>exact FZ h
    |true=>
     obtain⟨q',e,rfl⟩:=Option.map_eq_some_iff.mp (h:(run k st' ct' rest).map _=some q)
     exact .go e
theorem j8 (a:Acc):∀ p q:List Tok,a.toks (p++q)=(a.toks p).toks q:=λp q=>by
 induction p generalizing a with
 |nil=>rfl
 |cons t p ih=>exact ih (a.tok t)
theorem Lim.app {a:Acc}:∀ {p q:List Tok},Lim a (p++q)→Lim a p∧Lim (a.toks p) q
 | [],_,h=>⟨⟨A5 (Nat.add_le_add_left (Nat.zero_le _) _) h.g,A5 (Nat.add_le_add_left (Nat.zero_le _) _) h.f,A5 (Nat.add_le_add_left (Nat.zero_le _) _) h.t⟩,h⟩
 |t::p,q,h=>by
  have k:=Lim.app (a:=a.tok t) (p:=p) (q:=q) (Lim.tok h)
  have g:a.got.length+(r7 t+dJ (p++q))≤90000:=h.g
  have f:a.fs.length+((p++q).length+1)≤90000:=h.f
  have e:a.ts.length+((p++q).length+1)≤90000:=h.t
  rw[lL]at g
  rw[A2]at f e
  exact⟨⟨by show a.got.length+(r7 t+dJ p)≤_;lia,by show a.fs.length+(p.length+1)≤_;lia,by show a.ts.length+(p.length+1)≤_;lia⟩,k.2⟩
section
variable {z:bS}{f:Fr}{T:Nm}{m:Nat}
inductive EndR (f:Fr) (T:Nm) (a:Acc):List O→Prop
 |mk (r:Stm) (st:Nat) (ct:CT) (at_:At' T true 0 r [] []):EndR f T a (AL f a r st (pL ct) [] (o7 ct))
theorem er0 {r:Stm}{ms l:Nm}(a:At' T true 0 r ms l):r.er=0:=Nat.eq_zero_of_add_eq_zero_right a.er
theorem VX {got:Nm}{ro:Option (D×D)}:Lo (.fr (f.b got (KD ro))):=by
 obtain⟨sD,nD,pD,wD,dD,j,tx,sg⟩:=f
 unfold Lo
 cases j <;>cases ro <;>rfl
noncomputable abbrev Zq (z:bS)(f:Fr)(T:Nm)(a:Acc)(q:List Tok)(r:Stm)(st:Nat)(ct:CT):Prop:=∃ hpE m,EndR f T (a.toks q) hpE∧∃ kk,∀ hp,Gc 11 hp (AL f a r st (pL ct) [] (o7 ct))→PX z hpE m kk .o hp
theorem QL {k:Nat}(ih:∀ {st:Nat} {ct:CT} {l:Nm} {q:List Tok} (_:run k st ct l=some q) (r:Stm) (a:Acc),At' T true 0 r [] l→Lim a q→Zq z f T a q r st ct)
  {r r1:Stm}{a:Acc}{st:Nat}{ct:CT}{l:Nm}{q:List Tok}{x:Res}(hp1:List O)(a1:At' T true 0 r1 [] x.rest)(b:RB z.c gN 8 GF (AL f a r st (pL ct) [] (o7 ct)) gI.t.t1 x.more hp1)
  (gc:Gc 11 hp1 (AL f a r1 x.st (pL x.ct) (Mm x.out) (o7 x.ct)))(g:RunN k l x q)(L:Lim a q):Zq z f T a q r st ct:=by
 obtain⟨more,st',ct',out,rest⟩:=x
 cases g with
 |stop=>exact⟨_,0,.mk r1 st' ct' a1,1,λhp g=>.stop rfl g b gc⟩
 |go e=>
  have La:=L.app
  obtain⟨hpE,m,en,kk,p⟩:=ih e r1 (a.toks out) a1 La.2
  obtain⟨k1,w⟩:=zG (z:=z) (f:=f) (r:=r1) (st:=st') (ct:=ct') (hpE:=hpE) (m:=m) out a La.1 ⟨kk,p _ .id⟩
  exact⟨hpE,out.length+m,by rw[j8];exact en,k1+2,λhp g=>.go rfl g b gc (.pass (by intro e;cases e) (Yk (er0 a1)) w)⟩
theorem VY (R:RplOk z.K):∀ (k:Nat) {st:Nat} {ct:CT} {l:Nm} {q:List Tok} (h:run k st ct l=some q) (r:Stm) (a:Acc),At' T true 0 r [] l→Lim a q→
  ∃ hpE m,EndR f T (a.toks q) hpE∧∃ kk,∀ hp,Gc 11 hp (AL f a r st (pL ct) [] (o7 ct))→PX z hpE m kk .o hp:=by
 intro k
 induction k with
 |zero=>intro st ct l q h;cases h
 |succ k ih=>
  intro st ct l q h r a at_ L
  obtain⟨x,u⟩:=Fa h
  obtain⟨r1,hp1,a1,b,gc⟩:=KC (fr:=f.b a.got (KD a.ro)) (fs:=o8 a.fs) (ts:=HK a.ts) VX (QG u.tr) (VM (z:=z) R (CT.small_of u.sm) at_ u.sp)
  exact QL ih hp1 a1 b gc u.go L
end
end
section
noncomputable def Fb:Nm:=[99,111,100,101]
theorem bM (n:Int)(d:Nat)(h:0<d):∃ k:Nat,Int.fmod n d=k∧k<d:=by
 have h1:0≤Int.fmod n d:=Int.fmod_nonneg_of_pos n (by lia)
 have h2:Int.fmod n d<d:=Int.fmod_lt_of_pos n (by lia)
 exact⟨(Int.fmod n d).toNat,(Int.toNat_of_nonneg h1).symm,by lia⟩
noncomputable def uN:List Nm:=[[38],[60],[62],[34],[39],[61],[32],[10],[110],[111],[116],[105],[108],[101],[98],[49],[59],[35],[120],[172],[182],[185],[215],[8713],[61,8421],[233]]
noncomputable def BJ (c:Nat):Bool:=(Nat.ble 55296 c&&Nat.blt c 57344)||((Nat.ble 64976 c&&Nat.blt c 65008)||Nat.blt 65533 (c%65536))
noncomputable def eV (c:Nat):Nat:=bif BJ c then 955 else c
noncomputable def aY (n:Int):Nm:=bif Nat.blt (Int.fmod n 27).toNat 26 then uN.getD (Int.fmod n 27).toNat []else [eV (160+(Int.fmod (Int.fdiv n 216) 1113952).toNat)]
noncomputable def VZ:Fn:=iM iO [30] []
noncomputable abbrev XJ (n:Int):List O:=[.fr [(Bg,.dat (.int n))]]
noncomputable abbrev uD:D:=.lst (uN.map D.str)
theorem oL {α β:Type}{f:α→β}{xs:List α}{k:Nat}{d:α}(h:k<xs.length):sQ (xs.map f) (k:Int)=some (f (xs.getD k d)):=by
 show(match Nat.blt k (xs.map f).length with|true=>some k|false=>none).bind (λj=>(xs.map f)[j]?)=_
 rw[show Nat.blt k (xs.map f).length=true from A4 (by rw[List.length_map];exact h)]
 show(xs.map f)[k]? =_
 rw[List.getElem?_map,List.getElem?_eq_getElem h,List.getD_eq_getElem?_getD,List.getElem?_eq_getElem h]
 rfl
noncomputable abbrev Yq (n:Int)(c:Nat):List O:=[.fr [(Bg,.dat (.int n)),(Fb,.dat (.int c))]]
section
variable {z:bS}{n:Int}{c k:Nat}
theorem Yr:RS z.c VZ.names 2 ⟨0,[],true⟩ (Yq n c) (bV VZ.body 2) .next (Yq n (eV c)):=by
 have m:Int.fmod (c:Int) 65536=((c%65536:Nat):Int):=Int.fmod_eq_emod_of_nonneg _ (by decide)
 have lt_i:∀ {a b:Nat} {t:Bool},Nat.blt a b=t→aX (a:Int) (b:Int)=t:=λ {a b t} h=>by
  cases t with
  |true=>exact gB (A3 h)
  |false=>exact mH (Nat.le_of_not_lt λq=>A8 (h.symm.trans (A4 q)))
 have ge_i:∀ {a b:Nat} {t:Bool},Nat.ble a b=t→(!aX (b:Int) (a:Int))=t:=λ {a b t} h=>by
  cases t with
  |true=>exact e9 (A3 h)
  |false=>exact dN (Nat.lt_of_not_le λq=>A8 (h.symm.trans (A4 q)))
 unfold eV BJ
 cases h1:Nat.ble 55296 c with
 |false=>
  have h1':=ge_i h1
  cases h3:Nat.ble 64976 c with
  |true=>exact absurd (A3 h3) λq=>A8 (h1.symm.trans (A4 (by lia)))
  |false=>
   have h3':=ge_i h3
   cases h5:Nat.blt 65533 (c%65536)with
   |true=>exact z.useS (hs:=[.tst 1252007012 false,.tst 1252032037 false,.tst 1252057077 true]) (g:=cg [(true,aX 65533 (Int.fmod c 65536)),(false,!aX c 64976),(false,!aX c 55296)]) (aB (by rw[m];exact lt_i h5) (aB h3' (aB h1' aG))) trivial (by kernel_rfl)
   |false=>exact z.useS (hs:=[.tst 1252007012 false,.tst 1252032037 false,.tst 1252057077 false]) (g:=cg [(false,aX 65533 (Int.fmod c 65536)),(false,!aX c 64976),(false,!aX c 55296)]) (aB (by rw[m];exact lt_i h5) (aB h3' (aB h1' aG))) trivial (by kernel_rfl)
 |true=>
  have h1':=ge_i h1
  cases h2:Nat.blt c 57344 with
  |true=>exact z.useS (hs:=[.tst 1252007012 true,.tst 1252007028 true]) (g:=cg [(true,aX c 57344),(true,!aX c 55296)]) (aB (lt_i h2) (aB h1' aG)) trivial (by kernel_rfl)
  |false=>
   have h2':=lt_i h2
   cases h3:Nat.ble 64976 c with
   |true=>
    have h3':=ge_i h3
    cases h4:Nat.blt c 65008 with
    |true=>exact z.useS (hs:=[.tst 1252007012 true,.tst 1252007028 false,.tst 1252032037 true,.tst 1252032053 true]) (g:=cg [(true,aX c 65008),(true,!aX c 64976),(false,aX c 57344),(true,!aX c 55296)]) (aB (lt_i h4) (aB h3' (aB h2' (aB h1' aG)))) trivial (by kernel_rfl)
    |false=>
     have h4':=lt_i h4
     cases h5:Nat.blt 65533 (c%65536)with
     |true=>exact z.useS (hs:=[.tst 1252007012 true,.tst 1252007028 false,.tst 1252032037 true,.tst 1252032053 false,.tst 1252057077 true]) (g:=cg [(true,aX 65533 (Int.fmod c 65536)),(false,aX c 65008),(true,!aX c 64976),(false,aX c 57344),(true,!aX c 55296)]) (aB (by rw[m];exact lt_i h5) (aB h4' (aB h3' (aB h2' (aB h1' aG))))) trivial (by kernel_rfl)
     |false=>exact z.useS (hs:=[.tst 1252007012 true,.tst 1252007028 false,.tst 1252032037 true,.tst 1252032053 false,.tst 1252057077 false]) (g:=cg [(false,aX 65533 (Int.fmod c 65536)),(false,aX c 65008),(true,!aX c 64976),(false,aX c 57344),(true,!aX c 55296)]) (aB (by rw[m];exact lt_i h5) (aB h4' (aB h3' (aB h2' (aB h1' aG))))) trivial (by kernel_rfl)
   |false=>
    have h3':=ge_i h3
    cases h5:Nat.blt 65533 (c%65536)with
    |true=>exact z.useS (hs:=[.tst 1252007012 true,.tst 1252007028 false,.tst 1252032037 false,.tst 1252057077 true]) (g:=cg [(true,aX 65533 (Int.fmod c 65536)),(false,!aX c 64976),(false,aX c 57344),(true,!aX c 55296)]) (aB (by rw[m];exact lt_i h5) (aB h3' (aB h2' (aB h1' aG)))) trivial (by kernel_rfl)
    |false=>exact z.useS (hs:=[.tst 1252007012 true,.tst 1252007028 false,.tst 1252032037 false,.tst 1252057077 false]) (g:=cg [(false,aX 65533 (Int.fmod c 65536)),(false,!aX c 64976),(false,aX c 57344),(true,!aX c 55296)]) (aB (by rw[m];exact lt_i h5) (aB h3' (aB h2' (aB h1' aG)))) trivial (by kernel_rfl)
theorem KH:CallOk z.c 1 773 [] [] (.dat uD) []:=z.use (hs:=[]) (o:=.auto) (g:=true) rfl trivial (by kernel_rfl)
theorem uE (h:c≤1114111):eV c≤1114111:=by
 unfold eV
 cases BJ c with
 |true=>exact(by decide:955≤1114111)
 |false=>exact h
theorem Fc (z:bS)(n:Int):CallOk z.c 3 801 [.dat (.int n)] [] (.dat (.str (aY n))) []:=by
 obtain⟨k,hk,lt⟩:=bM n 27 (by decide)
 have e:aY n=bif Nat.blt k 26 then uN.getD k []else [eV (160+(Int.fmod (Int.fdiv n 216) 1113952).toNat)]:=by
  unfold aY
  rw[show Int.fmod n 27=(k:Int)from hk]
  rfl
 rw[e]
 have hv:V.dat (.int (Int.fmod n 27))=V.dat (.int k):=congrArg (λi=>V.dat (.int i)) hk
 cases h:Nat.blt k 26 with
 |true=>
  have l26:k<26:=A3 h
  have i:a9 z.c 2 (XJ n) getItem z.c.VT (.dat uD) (.dat (.int k)) (.dat (.str (uN.getD k []))) (XJ n):=eF (xs:=(uN.map D.str).map V.dat) rfl (by rw[List.map_map];exact oL (f:=V.dat ∘ D.str) (xs:=uN) l26) (A4 (A5 (Nat.le_of_lt l26) (by decide)))
  exact z.use (hs:=[.val 1249007013 (.dat (.int k)),.tst 1249007018 true,.cal 773 1 [] (.dat uD) [],.val 1250028034 (.dat (.int k)),.itm 1250015035 (.dat (.str (uN.getD k [])))]) (o:=.fz [] []) (g:=cg [(true,aX k 26)]) (ob:=a9 z.c 2 (XJ n) getItem z.c.VT (.dat uD) (.dat (.int k)) (.dat (.str (uN.getD k []))) (XJ n)∧V.dat (.int (Int.fmod n 27))=V.dat (.int k)∧CallOk z.c 1 773 [] [] (.dat uD) []∧V.dat (.int (Int.fmod n 27))=V.dat (.int k)∧True) (aB (gB l26) aG) ⟨i,hv,KH,hv,trivial⟩ (by kernel_rfl)
 |false=>
  have l26:26≤k:=Nat.le_of_not_lt λq=>A8 (h.symm.trans (A4 q))
  obtain⟨m,hm,lm⟩:=bM (Int.fdiv n 216) 1113952 (by decide)
  have hm':Int.fmod (Int.fdiv n 216) 1113952=(m:Int):=hm
  rw[hm']
  have hc:V.dat (.int (160+Int.fmod (Int.fdiv n 216) 1113952))=V.dat (.int ((160+m:Nat):Int)):=by rw[hm'];rfl
  show CallOk z.c 3 801 [.dat (.int n)] [] (.dat (.str [eV (160+m)])) []
  have q:=Yr (z:=z) (n:=n) (c:=160+m)
  have ck:Nat.ble (eV (160+m)) 1114111=true:=A4 (uE (by lia))
  generalize eV (160+m)=C at *
  generalize 160+m=c at *
  exact z.use (hs:=[.val 1249007013 (.dat (.int k)),.tst 1249007018 false,.val 1251011035 (.dat (.int c)),.stm 1252 .next (Yq n C)]) (o:=.fz [] []) (g:=cg [(true,Nat.ble C 1114111),(false,aX k 26)]) (aB ck (aB (mH l26) aG)) (an q (an hc (an hv trivial))) (by kernel_rfl)
end
end
section
noncomputable def Mp:Nm:=[114,111,119]
noncomputable def Fd:Nm:=[114,101,115,116]
noncomputable def QM:Nm:=[98,101,115,116]
noncomputable def eO (s row:Nm):Bool:=bif nb s []then false else Txt.contains (st row) (st s)
theorem QN {α:Type}(xs:List α){a b:Nat}(h:a≤b):dX xs (some (a:Int)) (some (b:Int))=(xs.drop a).take (b-a):=by
 show(xs.drop (mn a xs.length)).take (mn b xs.length-mn a xs.length)=_
 rw[iU,iU]
 rcases Nat.le_total a xs.length with q|q
 ·rw[Nat.min_eq_left q]
  rcases Nat.le_total b xs.length with w|w
  ·rw[Nat.min_eq_left w]
  ·rw[Nat.min_eq_right w,List.take_of_length_le (by rw[List.length_drop];lia),List.take_of_length_le (by rw[List.length_drop];lia)]
 ·rw[Nat.min_eq_right q,List.drop_eq_nil_of_le (A7 _),List.drop_eq_nil_of_le q,List.take_nil,List.take_nil]
theorem wT {α:Type}(xs:List α)(b:Nat):dX xs none (some (b:Int))=xs.take b:=by
 show(xs.drop 0).take (mn b xs.length-0)=_
 rw[iU,List.drop_zero,Nat.sub_zero]
 rcases Nat.le_total b xs.length with w|w
 ·rw[Nat.min_eq_left w]
 ·rw[Nat.min_eq_right w,List.take_of_length_le (A7 _),List.take_of_length_le w]
section
variable {z:bS}{s row:Nm}{c:Nat}
theorem eH (z:bS)(s row:Nm):CallOk z.c 2 815 [.dat (.str s),.dat (.str row)] [] (.dat (.boo (eO s row))) []:=by
 unfold eO
 cases h:nb s []with
 |true=>exact z.use (hs:=[.val 1262011021 (.dat (.boo false))]) (o:=.fz [] []) (g:=true) (ob:=V.dat (.boo (!nb s []))=V.dat (.boo false)∧True) rfl ⟨by rw[h];rfl,trivial⟩ (by kernel_rfl)
 |false=>exact z.use (hs:=[.val 1262011021 (.dat (.boo true))]) (o:=.fz [] []) (g:=true) (ob:=V.dat (.boo (!nb s []))=V.dat (.boo true)∧True) rfl ⟨by rw[h];rfl,trivial⟩ (by kernel_rfl)
noncomputable def j9:Nm:=aAm
noncomputable def jD (k:Nat):Nat:=j9.getD k 0
noncomputable def dR:Nat→Nat→Nm→Nm
 |0,_,row=>row
 |f+1,c,row=>bif Nat.beq c 0 then row else dR f (c/16) ([jD (c%16)]++row)
noncomputable def Fe:Fn:=iM iO [33] []
noncomputable def Va:WhlI:=Au (bV Fe.body 1)
noncomputable def HL (c:Nat)(row:Nm):List O:=[.fr [(Fb,.dat (.int c)),(Mp,.dat (.str row))]]
noncomputable abbrev SX:Fx:=⟨0,[],true⟩
theorem KJ (hr:row.length≤100):RX z.c Fe.names 1 SX (HL c row) Va.b .next (HL (c/16) ([jD (c%16)]++row)):=by
 have e1:V.dat (.int (Int.fmod c 16))=V.dat (.int (c%16:Nat)):=congrArg (λi=>V.dat (.int i)) (Int.fmod_eq_emod_of_nonneg _ (by decide))
 have e2:V.dat (.int (Int.fdiv c 16))=V.dat (.int (c/16:Nat)):=congrArg (λi=>V.dat (.int i)) (tR c 16)
 have lt:c%16<16:=Nat.mod_lt _ (by decide)
 have i:∀ hp,a9 z.c 1 hp getItem z.c.VT (.dat (.str j9)) (.dat (.int (c%16:Nat))) (.dat (.str [jD (c%16)])) hp:=λhp=>aN (by
  have k:∀ j<16,sQ j9 ((j:Nat):Int)=some (jD j):=by decide+kernel
  exact k _ lt) (show eR ((c%16:Nat):Int)=true from A4 (A5 (Nat.le_of_lt lt) (by decide))) hp
 generalize jD (c%16)=d at *
 generalize c%16=m at *
 generalize c/16=q at *
 exact z.useX (hs:=[.val 1266028037 (.dat (.int m)),.sub 1266014038 (.dat (.str [d])),.val 1267015025 (.dat (.int q))]) (g:=cg [(true,Nat.ble (([d]:Nm).length+row.length) lim)]) (aB (li (by show 1+_≤_;lia)) aG) (an e2 (an i (an e1 trivial))) (by kernel_rfl)
theorem r8 {b:Bool}(h:aX 0 c=b):RB z.c Fe.names 1 SX (HL c row) Va.t b (HL c row):=z.useT (hs:=[.tst 1265010018 b]) (g:=cg [(b,aX 0 c)]) (aB h aG) trivial (by kernel_rfl)
theorem zH:∀ (f c:Nat) (row:Nm),c<16 ^ f→row.length+f≤100→mB z.c Fe.names 1 SX Va.t Va.b 1 (f+1) (HL c row) .next (HL 0 (dR f c row))
 |0,c,row,h,_=>by
  obtain rfl:c=0:=by lia
  exact .stop (r8 (mH (a:=0) (b:=0) (A7 _)))
 |f+1,c,row,h,hr=>by
  show mB _ _ _ _ _ _ _ _ _ _ (HL 0 (bif Nat.beq c 0 then row else dR f (c/16) ([jD (c%16)]++row)))
  cases e:Nat.beq c 0 with
  |true=>
   obtain rfl:=B0 e
   exact .stop (r8 (mH (a:=0) (b:=0) (A7 _)))
  |false=>
   have c0:0<c:=Nat.pos_of_ne_zero λq=>by rw[q]at e;cases e
   have h2:c/16<16 ^ f:=Nat.div_lt_of_lt_mul (by rw[Nat.pow_succ]at h;lia)
   exact .turn (r8 (gB (a:=0) (b:=c) c0)) (KJ (by lia)) rfl .id (zH f (c/16) ([jD (c%16)]++row) h2 (by show row.length+1+f≤_;lia))
theorem Mq (z:bS)(h:c≤1114111):CallOk z.c 2 822 [.dat (.int c)] [] (.dat (.str (dR 6 c []))) []:=
 z.use (hs:=[.stm 1265 .next (HL 0 (dR 6 c []))]) (o:=.fz [] []) (g:=true) (ob:=RS z.c Fe.names 1 SX (HL c []) Va.s .next (HL 0 (dR 6 c []))∧True) rfl ⟨i9 (zH 6 c [] (Nat.lt_of_le_of_lt h (by decide)) (by decide)),trivial⟩ (by kernel_rfl)
noncomputable def qJ (rest best name:Nm):Nm:=bif nb (rest.take name.length) name&&Nat.blt best.length name.length then name else best
noncomputable def cG (rest:Nm):Nm:=aS.foldl (qJ rest) []
noncomputable def BK:Fn:=iM iO [31] []
noncomputable def SA:ForI:=Di (bV BK.body 1)
noncomputable def Ff (rest best:Nm)(eo:List (Nm×V)):List O:=[.fr ([(Fd,.dat (.str rest)),(QM,.dat (.str best))]++eo)]
noncomputable abbrev BM (x:Nm):List (Nm×V):=[(fT,.dat (.str x))]
variable {rest best name:Nm}
theorem KL (hr:rest.length≤20000)(hn:name.length≤20000)(hb:best.length≤20000):RX z.c BK.names 1 SX (Ff rest best (BM name)) SA.b .next (Ff rest (qJ rest best name) (BM name)):=by
 have e:V.dat (.str (dX rest none (some (name.length:Int))))=V.dat (.str (rest.take name.length)):=congrArg (λx=>V.dat (.str x)) (wT rest name.length)
 unfold qJ
 generalize rest.take name.length=y at *
 cases h1:nb y name with
 |false=>exact z.useX (hs:=[.val 1258011027 (.dat (.str y)),.tst 1258011035 false]) (g:=cg [(false,nb y name),(true,Nat.ble rest.length lim),(true,Nat.ble name.length lim)]) (aB h1 (aB (li hr) (aB (li hn) aG))) (an e trivial) (by kernel_rfl)
 |true=>cases h2:Nat.blt best.length name.length with
  |true=>
   have h2':aX best.length name.length=true:=gB (A3 h2)
   exact z.useX (hs:=[.val 1258011027 (.dat (.str y)),.tst 1258011035 true,.tst 1258040061 true]) (g:=cg [(true,aX best.length name.length),(true,Nat.ble best.length lim),(true,Nat.ble name.length lim),(true,nb y name),(true,Nat.ble rest.length lim),(true,Nat.ble name.length lim)]) (aB h2' (aB (li hb) (aB (li hn) (aB h1 (aB (li hr) (aB (li hn) aG)))))) (an e trivial) (by kernel_rfl)
  |false=>
   have h2':aX best.length name.length=false:=mH (Nat.le_of_not_lt λq=>A8 (h2.symm.trans (A4 q)))
   exact z.useX (hs:=[.val 1258011027 (.dat (.str y)),.tst 1258011035 true,.tst 1258040061 false]) (g:=cg [(false,aX best.length name.length),(true,Nat.ble best.length lim),(true,Nat.ble name.length lim),(true,nb y name),(true,Nat.ble rest.length lim),(true,Nat.ble name.length lim)]) (aB h2' (aB (li hb) (aB (li hn) (aB h1 (aB (li hr) (aB (li hn) aG)))))) (an e trivial) (by kernel_rfl)
theorem mU:(aS.all λp=>Nat.ble p.length 20)=true:=by kernel_rfl
theorem Fg (hb:best.length≤20)(hn:name.length≤20):(qJ rest best name).length≤20:=by
 unfold qJ
 cases nb (rest.take name.length) name&&Nat.blt best.length name.length with
 |true=>exact hn
 |false=>exact hb
theorem KM {eo:List (Nm×V)}(he:eo=[]∨∃ v,eo=[(fT,v)]):RG z.c BK.names 1 SX (Ff rest best eo) SA.g (.dat (.str name)) (Ff rest best (BM name)):=by
 rcases he with rfl|⟨v,rfl⟩
 ·exact dL (by kernel_rfl) (by kernel_rfl)
 ·exact dL (by kernel_rfl) (by kernel_rfl)
theorem gD (hp:List O):cW (.dat aR) hp=some (aS.map λx=>.dat (.str x)):=by kernel_rfl
theorem zI (hr:rest.length≤20000):∀ (t:List Nm) (k:Nat) (best:Nm) (eo:List (Nm×V)),aS.drop k=t→(∀ x∈t,x.length≤20)→best.length≤20→(eo=[]∨∃ v,eo=[(fT,v)])→
  ∃ eo',s9 z.c BK.names 1 SX SA.g SA.b 1 (.dat aR) (t.length+1) k (Ff rest best eo) .next (Ff rest (t.foldl (qJ rest) best) eo')
 | [],k,best,eo,h,_,_,_=>⟨eo,.stop (gD _) (by rw[List.getElem?_map,List.getElem?_eq_none (List.drop_eq_nil_iff.mp h)];rfl)⟩
 |x::t,k,best,eo,h,hx,hb,he=>by
  have hk:aS[k]? =some x:=by have:=congrArg (·[0]?) h;simpa using this
  have ht:aS.drop (k+1)=t:=by rw[← List.drop_drop,h];rfl
  have lx:=hx x (.head _)
  obtain⟨eo',q⟩:=zI hr t (k+1) (qJ rest best x) (BM x) ht (λy m=>hx y (.tail _ m)) (Fg hb lx) (.inr ⟨_,rfl⟩)
  exact⟨eo',.turn (gD _) (by rw[List.getElem?_map,hk];rfl) (KM he) (KL hr (A5 lx (by decide)) (A5 hb (by decide))) rfl .id q⟩
theorem iI (z:bS)(hr:rest.length≤20000):CallOk z.c 2 808 [.dat (.str rest)] [] (.dat (.str (cG rest))) []:=by
 obtain⟨eo,q⟩:=zI (z:=z) hr aS 0 [] [] rfl (λx m=>A3 (List.all_eq_true.mp mU x m)) (Nat.zero_le _) (.inl rfl)
 have i:RE z.c BK.names 1 SX (Ff rest [] []) SA.i (.dat aR) (Ff rest [] []):=z.useE (hs:=[]) (g:=true) rfl trivial (by kernel_rfl)
 exact z.use (hs:=[.stm 1257 .next (Ff rest (cG rest) eo)]) (o:=.fz [] []) (g:=true) (ob:=RS z.c BK.names 1 SX (Ff rest [] []) SA.s .next (Ff rest (cG rest) eo)∧True) rfl ⟨kZ (λenv x=>d6 (by kernel_rfl) env x) i (by kernel_rfl) rfl q,trivial⟩ (by kernel_rfl)
end
end
section
noncomputable def lM:Nm:=[48,49,50,51,52,53,54,55,56,57]
noncomputable def o9:Nm:=PQ j0
noncomputable def Fh:Nm:=dI
noncomputable def Ys:Nm:=aF
noncomputable def Vb:Nm:=aA
noncomputable def gP (c:Nat):Bool:=Txt.contains (st aA0) (st [c])
noncomputable abbrev wU (rest:Nm)(k:Nat):Nm:=(rest.drop k).take 1
noncomputable def l9 (rest:Nm):Option (List Nm):=bif eO (wU rest 1) [120,88]then(bif eO (wU rest 2) j9 then none else some [Fh])else bif eO (wU rest 1) lM then none else some [Fh]
noncomputable def kA (rest:Nm)(inside:Bool):Option (List Nm):=bif nb (cG rest) []then some [Ys]else bif inside&&(!nb [cA (cG rest)] [59]&&eO (wU rest (cG rest).length) o9)then some [Vb]else none
noncomputable def fN (rest:Nm)(inside:Bool):Option (List Nm):=match rest with
 | []=>some []
 |c::t=>bif gP c then some []else bif nb [c] [35]then l9 (c::t)else kA (c::t) inside
noncomputable def zJ:Option (List Nm)→D
 |none=>.non
 |some l=>.lst (l.map D.str)
section
variable {z:bS}{rest:Nm}{c:Nat}{t:Nm}{inside:Bool}
theorem Vc:sQ (c::t) 0=some c:=by
 show(match Nat.blt 0 (c::t).length with|true=>some 0|false=>none).bind (λj=>(c::t)[j]?)=_
 rw[show Nat.blt 0 (c::t).length=true from A4 (Nat.succ_le_succ (Nat.zero_le _))]
 rfl
noncomputable abbrev CAm (z:bS)(s row:Nm)(b:Bool):Prop:=CallOk z.c 2 815 [.dat (.str s),.dat (.str row)] [] (.dat (.boo b)) []
noncomputable abbrev XK (z:bS)(x:Nm)(k:Int)(c:Nat):Prop:=∀ hp,a9 z.c 2 hp getItem z.c.VT (.dat (.str x)) (.dat (.int k)) (.dat (.str [c])) hp
theorem wV (x:Nm)(k:Nat):V.dat (.str (dX x (some (k:Int)) (some ((k+1:Nat):Int))))=V.dat (.str (wU x k)):=by
 rw[QN x (Nat.le_succ k),show k.succ-k=1 from Nat.add_sub_cancel_left k 1]
noncomputable abbrev Zr (c:Nat)(b1:Bool):List Hi:=[.tst 1270007017 false,.sub 1270021028 (.dat (.str [c])),.tst 1270021039 b1]
noncomputable abbrev KN (c:Nat)(b2:Bool):List Hi:=Zr c false++[.sub 1272007014 (.dat (.str [c])),.tst 1272007021 b2]
theorem KO (hl:rest.length≤20000)(i0:XK z rest 0 c)(ne:nb rest []=false)(t1:gP c=false)(t2:nb [c] [35]=true):CallOk z.c 3 829 [.dat (.str rest),.dat (.boo inside)] [] (.dat (zJ (l9 rest))) []:=by
 have a1:=eH z (wU rest 1) [120,88]
 have a2:=eH z (wU rest 2) j9
 have a3:=eH z (wU rest 1) lM
 have v1:=wV rest 1
 have v2:=wV rest 2
 unfold l9
 generalize wU rest 1=x1 at *
 generalize wU rest 2=x2 at *
 cases h1:eO x1 [120,88]with
 |true=>
  rw[h1]at a1
  cases h2:eO x2 j9 with
  |true=>
   rw[h2]at a2
   exact z.use (hs:=KN c true++[.val 1273022031 (.dat (.str x1)),.cal 815 2 [] (.dat (.boo true)) [],.val 1274038047 (.dat (.str x2)),.cal 815 2 [] (.dat (.boo true)) []]) (o:=.auto) (g:=cg [(true,Nat.ble rest.length lim),(true,Nat.ble rest.length lim),(true,nb [c] [35]),(false,gP c),(false,nb rest [])]) (aB (li hl) (aB (li hl) (aB t2 (aB t1 (aB ne aG))))) (an a2 (an v2 (an a1 (an v1 (an i0 (an i0 trivial)))))) (by kernel_rfl)
  |false=>
   rw[h2]at a2
   exact z.use (hs:=KN c true++[.val 1273022031 (.dat (.str x1)),.cal 815 2 [] (.dat (.boo true)) [],.val 1274038047 (.dat (.str x2)),.cal 815 2 [] (.dat (.boo false)) []]) (o:=.auto) (g:=cg [(true,Nat.ble rest.length lim),(true,Nat.ble rest.length lim),(true,nb [c] [35]),(false,gP c),(false,nb rest [])]) (aB (li hl) (aB (li hl) (aB t2 (aB t1 (aB ne aG))))) (an a2 (an v2 (an a1 (an v1 (an i0 (an i0 trivial)))))) (by kernel_rfl)
 |false=>
  rw[h1]at a1
  cases h2:eO x1 lM with
  |true=>
   rw[h2]at a3
   exact z.use (hs:=KN c true++[.val 1273022031 (.dat (.str x1)),.cal 815 2 [] (.dat (.boo false)) [],.val 1275034043 (.dat (.str x1)),.cal 815 2 [] (.dat (.boo true)) []]) (o:=.auto) (g:=cg [(true,Nat.ble rest.length lim),(true,Nat.ble rest.length lim),(true,nb [c] [35]),(false,gP c),(false,nb rest [])]) (aB (li hl) (aB (li hl) (aB t2 (aB t1 (aB ne aG))))) (an a3 (an v1 (an a1 (an v1 (an i0 (an i0 trivial)))))) (by kernel_rfl)
  |false=>
   rw[h2]at a3
   exact z.use (hs:=KN c true++[.val 1273022031 (.dat (.str x1)),.cal 815 2 [] (.dat (.boo false)) [],.val 1275034043 (.dat (.str x1)),.cal 815 2 [] (.dat (.boo false)) []]) (o:=.auto) (g:=cg [(true,Nat.ble rest.length lim),(true,Nat.ble rest.length lim),(true,nb [c] [35]),(false,gP c),(false,nb rest [])]) (aB (li hl) (aB (li hl) (aB t2 (aB t1 (aB ne aG))))) (an a3 (an v1 (an a1 (an v1 (an i0 (an i0 trivial)))))) (by kernel_rfl)
theorem KP:(cG rest).length≤20:=by
 have h:∀ (t:List Nm) (b:Nm),(∀ x∈t,x.length≤20)→b.length≤20→(t.foldl (qJ rest) b).length≤20:=λt=>by
  induction t with
  |nil=>exact λb _ hb=>hb
  |cons x t ih=>exact λb hx hb=>ih _ (λy m=>hx y (.tail _ m)) (Fg hb (hx x (.head _)))
 exact h aS [] (λx m=>A3 (List.all_eq_true.mp mU x m)) (Nat.zero_le _)
theorem KQ (hl:rest.length≤20000)(i0:XK z rest 0 c)(ne:nb rest []=false)(t1:gP c=false)(t2:nb [c] [35]=false):CallOk z.c 3 829 [.dat (.str rest),.dat (.boo inside)] [] (.dat (zJ (kA rest inside))) []:=by
 have lg:=iI z hl
 have ll:=KP (rest:=rest)
 have am:=eH z (wU rest (cG rest).length) o9
 have v1:=wV rest (cG rest).length
 unfold kA
 generalize cG rest=best at *
 cases hb:nb best []with
 |true=>
  exact z.use (hs:=KN c false++[.cal 808 2 [] (.dat (.str best)) [],.tst 1277007017 true]) (o:=.auto) (g:=cg [(true,nb best []),(false,nb [c] [35]),(false,gP c),(false,nb rest [])]) (aB hb (aB t2 (aB t1 (aB ne aG)))) (an lg (an i0 (an i0 trivial))) (by kernel_rfl)
 |false=>
  cases inside with
  |false=>
   exact z.use (hs:=KN c false++[.cal 808 2 [] (.dat (.str best)) [],.tst 1277007017 false]) (o:=.auto) (g:=cg [(false,nb best []),(false,nb [c] [35]),(false,gP c),(false,nb rest [])]) (aB hb (aB t2 (aB t1 (aB ne aG)))) (an lg (an i0 (an i0 trivial))) (by kernel_rfl)
  |true=>
   have bn:best≠[]:=λq=>by rw[q]at hb;cases hb
   have il:XK z best (-1) (cA best):=λhp=>aN (rV bn) rfl hp
   generalize cA best=e at *
   cases he:nb [e] [59]with
   |true=>
    exact z.use (hs:=KN c false++[.cal 808 2 [] (.dat (.str best)) [],.tst 1277007017 false,.sub 1279018026 (.dat (.str [e])),.tst 1279018033 false]) (o:=.auto) (g:=cg [(false,!nb [e] [59]),(false,nb best []),(false,nb [c] [35]),(false,gP c),(false,nb rest [])]) (aB (congrArg (!·) he) (aB hb (aB t2 (aB t1 (aB ne aG))))) (an il (an lg (an i0 (an i0 trivial)))) (by kernel_rfl)
   |false=>
    have hb2:Nat.ble best.length lim=true:=li (by lia)
    generalize wU rest best.length=x at *
    cases ha:eO x o9 with
    |true=>
     rw[ha]at am
     exact z.use (hs:=KN c false++[.cal 808 2 [] (.dat (.str best)) [],.tst 1277007017 false,.sub 1279018026 (.dat (.str [e])),.tst 1279018033 true,.val 1279049078 (.dat (.str x)),.cal 815 2 [] (.dat (.boo true)) []]) (o:=.auto) (g:=cg [(true,Nat.ble rest.length lim),(true,Nat.ble best.length lim),(true,Nat.ble best.length lim),(true,!nb [e] [59]),(false,nb best []),(false,nb [c] [35]),(false,gP c),(false,nb rest [])]) (aB (li hl) (aB hb2 (aB hb2 (aB (congrArg (!·) he) (aB hb (aB t2 (aB t1 (aB ne aG)))))))) (an am (an v1 (an il (an lg (an i0 (an i0 trivial)))))) (by kernel_rfl)
    |false=>
     rw[ha]at am
     exact z.use (hs:=KN c false++[.cal 808 2 [] (.dat (.str best)) [],.tst 1277007017 false,.sub 1279018026 (.dat (.str [e])),.tst 1279018033 true,.val 1279049078 (.dat (.str x)),.cal 815 2 [] (.dat (.boo false)) []]) (o:=.auto) (g:=cg [(true,Nat.ble rest.length lim),(true,Nat.ble best.length lim),(true,Nat.ble best.length lim),(true,!nb [e] [59]),(false,nb best []),(false,nb [c] [35]),(false,gP c),(false,nb rest [])]) (aB (li hl) (aB hb2 (aB hb2 (aB (congrArg (!·) he) (aB hb (aB t2 (aB t1 (aB ne aG)))))))) (an am (an v1 (an il (an lg (an i0 (an i0 trivial)))))) (by kernel_rfl)
theorem Fi (z:bS)(rest:Nm)(inside:Bool)(hl:rest.length≤20000):CallOk z.c 3 829 [.dat (.str rest),.dat (.boo inside)] [] (.dat (zJ (fN rest inside))) []:=by
 cases rest with
 |nil=>exact z.use (hs:=[]) (o:=.auto) (g:=true) rfl trivial (by kernel_rfl)
 |cons c t=>
  have i0:XK z (c::t) 0 c:=λhp=>aN Vc rfl hp
  have ne:nb (c::t) []=false:=rfl
  show CallOk _ _ _ _ _ (.dat (zJ (bif gP c then some []else bif nb [c] [35]then l9 (c::t)else kA (c::t) inside))) _
  cases t1:gP c with
  |true=>exact z.use (hs:=Zr c true) (o:=.auto) (g:=cg [(true,gP c),(false,nb (c::t) [])]) (aB t1 (aB ne aG)) (an i0 trivial) (by kernel_rfl)
  |false=>cases t2:nb [c] [35]with
   |true=>exact KO hl i0 ne t1 t2
   |false=>exact KQ hl i0 ne t1 t2
end
end
section
noncomputable def QO:Nm:=[117,110,105,116]
noncomputable def QP:Nm:=[102,111,114,109]
section
variable {c:Cx}{n:Nat}{hp:List O}{a b:V}{xs:List V}
theorem r9 (ha:items a hp=some xs)(hb:items b hp=some []):a9 c n hp (compareOp .Eq) eP a b (!uV xs) hp:=λA W s u v z hu hv=>by
 match u,aP z.rel hu ha,v,aP z.rel hv hb with
 |_,.mk a us k I d,_,.mk a' us' k' I' d'=>
  obtain rfl:us'=[]:=d'
  have hu:=Nat.lt_of_le_of_lt (Nat.le_add_right A.units 8) z.room.eight
  cases xs with
  |nil=>
   obtain rfl:us=[]:=d
   exact SeqAt.RcAt.lists (e:=λ_=>true) ⟨_,I,rfl,_,rfl⟩ ⟨_,I',rfl,_,rfl⟩ rfl hu (λi x _=>absurd x (Nat.not_lt_zero i)) _ _ _ _ (bo z _ rfl)
  |cons x xs=>
   cases us with
   |nil=>exact absurd (R2.len d) (by intro q;cases q)
   |cons u us=>exact SeqAt.RcAt.lists_lengths ⟨_,I,rfl,_,rfl⟩ ⟨_,I',rfl,_,rfl⟩ rfl hu _ _ _ _ (bo z _ rfl)
theorem QR (ha:items a hp=some xs)(hb:items b hp=some []):a9 c n hp (compareOp .NotEq) eP a b (uV xs) hp:=λA W s u v z hu hv=>by
 match u,aP z.rel hu ha,v,aP z.rel hv hb with
 |_,.mk a us k I d,_,.mk a' us' k' I' d'=>
  obtain rfl:us'=[]:=d'
  have hu:=Nat.lt_of_le_of_lt (Nat.le_add_right A.units 8) z.room.eight
  cases xs with
  |nil=>
   obtain rfl:us=[]:=d
   exact SeqAt.RcNeAt.lists (e:=λ_=>true) ⟨_,I,rfl,_,rfl⟩ ⟨_,I',rfl,_,rfl⟩ rfl hu (λi x _=>absurd x (Nat.not_lt_zero i)) _ _ _ _ (bo z _ rfl)
  |cons x xs=>
   cases us with
   |nil=>exact absurd (R2.len d) (by intro q;cases q)
   |cons u us=>exact SeqAt.RcNeAt.lists_lengths ⟨_,I,rfl,_,rfl⟩ ⟨_,I',rfl,_,rfl⟩ rfl hu _ _ _ _ (bo z _ rfl)
theorem Vd (ha:items a hp=some xs):a9 c n hp (compareOp .IsNot) eP a (.dat .non) true hp:=λA W s u v z hu hv=>by
 match u,aP z.rel hu ha with
 |_,.mk a us k I d=>exact(show v=.none from hv)▸isNot_none (bo z _ rfl)
end
noncomputable def HM:Fn:=iM iO [35] []
noncomputable def WL (u:Nm)(n:Int)(rest:Nm)(p:Nat)(eo:List (Nm×V)):List O:=[.fr ([(Bg,.dat (.int n)),(Fd,.dat (.str rest))]++eo),.cel (some (.dat (.str u))),.cel (some (.dat (.int p)))]
noncomputable abbrev WX:Fx:=⟨0,[(b5,2),(QO,1)],true⟩
noncomputable abbrev mV (f:Nat):List (Nm×V):=[(QP,.dat (.int f))]
noncomputable def XM:Stmt:=bV HM.body 1
noncomputable def b7 (c:Nat):Nm:=([38,35]++bJ c)++[59]
section
variable {z:bS}{u rest:Nm}{n:Int}{p f c:Nat}{eo:List (Nm×V)}
theorem c8 {c:Nat}(h:c≤1114111):(bJ c).length≤8:=by
 have q:=int_text_length_le10 (a:=(c:Int)) (k:=7) (by decide) (Nat.lt_of_le_of_lt h (by decide))
 have e:(bJ c).length=(toString (c:Int)).length:=(Array.length_toList ..).trans (PySem.ofString_length _)
 rw[e]
 exact q
noncomputable abbrev oM (z:bS)(u:Nm)(n:Int)(rest:Nm)(p:Nat)(w:Nm)(l:List Nm):Prop:=CallOk z.c 4 834 [.dat (.str u),.dat (.int n),.dat (.str rest),.dat (.int p)] [] (.dat (.tup [.str w,.lst (l.map D.str)])) []
noncomputable abbrev SD (z:bS)(u:Nm)(n:Int)(rest:Nm)(p f:Nat)(fl:Fl)(eo:List (Nm×V)):Prop:=RS z.c HM.names 3 WX (WL u n rest p (mV f)) XM fl (WL u n rest p eo)
theorem sA (hf:Int.fmod (Int.fdiv n 27) 8=f)(h:SD z [c] n rest p f .next eo)(hc:c≤1114111):oM z [c] n rest p ([c].map b7).flatten []:=by
 have hv:V.dat (.int (Int.fmod (Int.fdiv n 27) 8))=V.dat (.int f):=congrArg (λi=>V.dat (.int i)) hf
 have l:=c8 hc
 have g1:Nat.ble c 2000000=true:=A4 (A5 hc (by decide))
 have g2:Nat.ble (([38,35]:Nm).length+(bJ c).length) lim=true:=li (by show 2+_≤_;lia)
 have g3:Nat.ble ((([38,35]:Nm)++bJ c).length+([59]:Nm).length) lim=true:=li (by rw[A2];show 2+_+1≤_;lia)
 have g4:Nat.ble (([c].map b7).flatten).length lim=true:=li (by show(b7 c++[]).length≤_;rw[B1];unfold b7;rw[A2,A2];show 2+_+1≤_;lia)
 exact z.use (hs:=[.val 1283011022 (.dat (.int f)),.stm 1284 .next (WL [c] n rest p eo)]) (o:=.fz [5,6] []) (g:=cg [(true,Nat.ble (([c].map b7).flatten).length lim),(true,Nat.ble ((([38,35]:Nm)++bJ c).length+([59]:Nm).length) lim),(true,Nat.ble (([38,35]:Nm).length+(bJ c).length) lim),(true,Nat.ble c 2000000)]) (aB g4 (aB g3 (aB g2 (aB g1 aG)))) (an h (an hv trivial)) (by kernel_rfl)
theorem KS (hf:Int.fmod (Int.fdiv n 27) 8=f)(h:SD z [61,8421] n rest p f .next eo):oM z [61,8421] n rest p ([61,8421].map b7).flatten []:=by
 have hv:V.dat (.int (Int.fmod (Int.fdiv n 27) 8))=V.dat (.int f):=congrArg (λi=>V.dat (.int i)) hf
 have l1:=c8 (c:=61) (by decide)
 have l2:=c8 (c:=8421) (by decide)
 have a2:Nat.ble (([38,35]:Nm).length+(bJ 61).length) lim=true:=li (by show 2+_≤_;lia)
 have a3:Nat.ble ((([38,35]:Nm)++bJ 61).length+([59]:Nm).length) lim=true:=li (by rw[A2];show 2+_+1≤_;lia)
 have b2:Nat.ble (([38,35]:Nm).length+(bJ 8421).length) lim=true:=li (by show 2+_≤_;lia)
 have b3:Nat.ble ((([38,35]:Nm)++bJ 8421).length+([59]:Nm).length) lim=true:=li (by rw[A2];show 2+_+1≤_;lia)
 have g4:Nat.ble (([61,8421].map b7).flatten).length lim=true:=li (by show(b7 61++(b7 8421++[])).length≤_;rw[B1];unfold b7;simp only[A2];show 2+(bJ 61).length+1+(2+(bJ 8421).length+1)≤_;lia)
 exact z.use (hs:=[.val 1283011022 (.dat (.int f)),.stm 1284 .next (WL [61,8421] n rest p eo)]) (o:=.fz [5,6] []) (g:=cg [(true,Nat.ble (([61,8421].map b7).flatten).length lim),(true,Nat.ble ((([38,35]:Nm)++bJ 8421).length+([59]:Nm).length) lim),(true,Nat.ble (([38,35]:Nm).length+(bJ 8421).length) lim),(true,Nat.ble ((([38,35]:Nm)++bJ 61).length+([59]:Nm).length) lim),(true,Nat.ble (([38,35]:Nm).length+(bJ 61).length) lim)]) (aB g4 (aB b3 (aB b2 (aB a3 (aB a2 aG))))) (an h (an hv trivial)) (by kernel_rfl)
theorem QS (hf:Int.fmod (Int.fdiv n 27) 8=f)(f2:f<2)(hl:rest.length≤20000){l:List Nm}(hb:fN rest (Nat.blt 1 p)=some l):oM z [38] n rest p [38] l:=by
 have hv:V.dat (.int (Int.fmod (Int.fdiv n 27) 8))=V.dat (.int f):=congrArg (λi=>V.dat (.int i)) hf
 have hp:V.dat (.boo (aX 1 p))=V.dat (.boo (Nat.blt 1 p)):=rfl
 have b:=Fi z rest (Nat.blt 1 p) hl
 rw[hb]at b
 generalize Nat.blt 1 p=ins at *
 have e:∀ hp,a9 z.c 3 hp (compareOp .IsNot) eP (.dat (.lst (l.map D.str))) (.dat .non) true hp:=λ_=>Vd (xs:=(l.map D.str).map V.dat) rfl
 exact z.use (hs:=[.val 1283011022 (.dat (.int f)),.tst 1284007015 true,.val 1285031040 (.dat (.boo ins)),.cal 829 3 [] (.dat (.lst (l.map D.str))) [],.cmp 1286011027 true]) (o:=.auto) (g:=cg [(true,aX f 2)]) (aB (gB f2) aG) (an e (an b (an hp (an hv trivial)))) (by kernel_rfl)
theorem QT (f2:f<2)(hl:rest.length≤20000)(hb:fN rest (Nat.blt 1 p)=none):SD z [38] n rest p f .next (mV f++[(oK,.dat .non)]):=by
 have hp:V.dat (.boo (aX 1 p))=V.dat (.boo (Nat.blt 1 p)):=rfl
 have b:=Fi z rest (Nat.blt 1 p) hl
 rw[hb]at b
 generalize Nat.blt 1 p=ins at *
 exact z.useS (hs:=[.tst 1284007015 true,.val 1285031040 (.dat (.boo ins)),.cal 829 3 [] (.dat .non) []]) (g:=cg [(true,aX f 2)]) (aB (gB f2) aG) (an b (an hp trivial)) (by kernel_rfl)
theorem Ve (hf:Int.fmod (Int.fdiv n 27) 8=(6:Nat))(hc:c≤1114111)(h6:(dR 6 c []).length≤20):oM z [c] n rest p ((aAs++dR 6 c [])++[59]) []:=by
 have hv:V.dat (.int (Int.fmod (Int.fdiv n 27) 8))=V.dat (.int (6:Nat)):=congrArg (λi=>V.dat (.int i)) hf
 have s:=Mq z hc
 generalize dR 6 c []=x at *
 exact z.use (hs:=[.val 1283011022 (.dat (.int (6:Nat))),.cal 822 2 [] (.dat (.str x)) []]) (o:=.fz [3,4] []) (g:=cg [(true,Nat.ble (((aAs:Nm)++x).length+([59]:Nm).length) lim),(true,Nat.ble ((aAs:Nm).length+x.length) lim)]) (aB (li (by rw[A2];show 5+_+1≤_;lia)) (aB (li (by show 5+_≤_;lia)) aG)) (an s (an hv trivial)) (by kernel_rfl)
theorem lN (x:Nm):V.dat (.str (dX x none (some (1:Nat))))=V.dat (.str (x.take 1)):=congrArg (λx=>V.dat (.str x)) (wT x 1)
theorem Yt (hf:Int.fmod (Int.fdiv n 27) 8=(5:Nat))(hl:rest.length≤20000)(hc:c≤1114111)(ha:eO (rest.take 1) (lM++[59])=false):oM z [c] n rest p ([38,35]++bJ c) [aJ]:=by
 have hv:V.dat (.int (Int.fmod (Int.fdiv n 27) 8))=V.dat (.int (5:Nat)):=congrArg (λi=>V.dat (.int i)) hf
 have a:=eH z (rest.take 1) (lM++[59])
 have tv:=lN rest
 rw[ha]at a
 generalize rest.take 1=x at *
 have l:=c8 hc
 exact z.use (hs:=[.val 1283011022 (.dat (.int (5:Nat))),.val 1302026034 (.dat (.str x)),.cal 815 2 [] (.dat (.boo false)) []]) (o:=.fz [3,4] []) (g:=cg [(true,Nat.ble (([38,35]:Nm).length+(bJ c).length) lim),(true,Nat.ble c 2000000),(true,Nat.ble rest.length lim)]) (aB (li (by show 2+_≤_;lia)) (aB (A4 (A5 hc (by decide))) (aB (li hl) aG))) (an a (an tv (an hv trivial))) (by kernel_rfl)
theorem Yu (hf:Int.fmod (Int.fdiv n 27) 8=(7:Nat))(hl:rest.length≤20000)(hc:c≤1114111)(h6:(dR 6 c []).length≤20)(ha:eO (rest.take 1) (j9++[59])=false):oM z [c] n rest p ([38,35]++([120]++dR 6 c [])) [aJ]:=by
 have hv:V.dat (.int (Int.fmod (Int.fdiv n 27) 8))=V.dat (.int (7:Nat)):=congrArg (λi=>V.dat (.int i)) hf
 have a:=eH z (rest.take 1) (j9++[59])
 have tv:=lN rest
 have s:=Mq z hc
 rw[ha]at a
 generalize rest.take 1=x at *
 generalize dR 6 c []=y at *
 exact z.use (hs:=[.val 1283011022 (.dat (.int (7:Nat))),.val 1302026034 (.dat (.str x)),.cal 815 2 [] (.dat (.boo false)) [],.cal 822 2 [] (.dat (.str y)) []]) (o:=.fz [3,4] []) (g:=cg [(true,Nat.ble (([38,35]:Nm).length+(([120]:Nm)++y).length) lim),(true,Nat.ble (([120]:Nm).length+y.length) lim),(true,Nat.ble rest.length lim)]) (aB (li (by rw[A2];show 2+(1+_)≤_;lia)) (aB (li (by show 1+_≤_;lia)) (aB (li hl) aG))) (an s (an a (an tv (an hv trivial)))) (by kernel_rfl)
noncomputable abbrev Vf (f:Nat)(x:Nm):List (Nm×V):=mV f++[(Mp,.dat (.str x))]
theorem Vg (hl:rest.length≤20000)(ha:eO (rest.take 1) (lM++[59])=true):SD z [c] n rest p 5 .next (Vf 5 lM):=by
 have a:=eH z (rest.take 1) (lM++[59])
 have tv:=lN rest
 rw[ha]at a
 generalize rest.take 1=x at *
 exact z.useS (hs:=[.val 1302026034 (.dat (.str x)),.cal 815 2 [] (.dat (.boo true)) []]) (g:=cg [(true,Nat.ble rest.length lim)]) (aB (li hl) aG) (an a (an tv trivial)) (by kernel_rfl)
theorem Vh (hl:rest.length≤20000)(ha:eO (rest.take 1) (j9++[59])=true):SD z [c] n rest p 7 .next (Vf 7 j9):=by
 have a:=eH z (rest.take 1) (j9++[59])
 have tv:=lN rest
 rw[ha]at a
 generalize rest.take 1=x at *
 exact z.useS (hs:=[.val 1302026034 (.dat (.str x)),.cal 815 2 [] (.dat (.boo true)) []]) (g:=cg [(true,Nat.ble rest.length lim)]) (aB (li hl) aG) (an a (an tv trivial)) (by kernel_rfl)
theorem Vi (hf:f=5∨f=6∨f=7):SD z [61,8421] n rest p f .next (mV f):=by
 rcases hf with rfl|rfl|rfl
 ·exact z.useS (hs:=[]) (g:=true) rfl trivial (by kernel_rfl)
 ·exact z.useS (hs:=[]) (g:=true) rfl trivial (by kernel_rfl)
 ·exact z.useS (hs:=[]) (g:=true) rfl trivial (by kernel_rfl)
end
end
section
noncomputable def KT:Nm:=[110,97,109,101,115]
structure ComI where
 y:Str
 px:Pos
 re:Expr
 rt:Expr
 ri:Expr
 ts:List Expr
 scope:Scope
 pos:Pos
 spos:Pos
noncomputable def Zs (y:Expr)(r:Expr)(q:Pos):ComI:=⟨(jQ y).1,(jQ y).2,(Ru r).1,(Nd (Ru r).2.1).1,(Nd (Ru r).2.1).2.1,(Nd (Ru r).2.1).2.2,(Ru r).2.2.1,(Ru r).2.2.2,q⟩
noncomputable def ComI.s (f:ComI):Stmt:=.Assign [.Name f.y f.px] (.ListComp f.re [⟨f.rt,f.ri,f.ts,0⟩] f.scope f.pos) f.spos
noncomputable def KU:List Stmt:=(SW (bV (SW (bV (SW XM).2 0)).2 0)).1
noncomputable def Fj:ComI:=Zs ((sT (bV KU 0)).1.headD iS) (sT (bV KU 0)).2.1 (sT (bV KU 0)).2.2
theorem Vj:bV KU 0=Fj.s:=by kernel_rfl
section
variable {z:bS}{u rest:Nm}{n:Int}{p f:Nat}{x:Nm}
noncomputable abbrev XQ:Fx:=⟨4,eC WX.cs (cC Fj.scope.names),false⟩
noncomputable abbrev KV:aH:=mC HM.names Fj.scope.names
noncomputable def Fk (u:Nm)(n:Int)(rest:Nm)(p f:Nat)(xs:List Nm)(eo:List (Nm×V)):List O:=WL u n rest p (mV f)++[.lst (xs.map λx=>.dat (.str x)),.fr eo]
theorem KW {xs:List Nm}{eo:List (Nm×V)}(he:eo=[]∨∃ v,eo=[(fT,v)]):RG z.c KV 3 XQ (Fk u n rest p f xs eo) Fj.rt (.dat (.str x)) (Fk u n rest p f xs (BM x)):=by
 rcases he with rfl|⟨v,rfl⟩
 ·exact dL (by kernel_rfl) (by kernel_rfl)
 ·exact dL (by kernel_rfl) (by kernel_rfl)
noncomputable def Zt:Expr:=Fj.ts.headD (.Constant .none 0 pU)
theorem Mr:Fj.ts=[Zt]:=by kernel_rfl
theorem KX {xs:List Nm}(he:aO x aS=true):RB z.c KV 3 XQ (Fk u n rest p f xs (BM x)) Zt (nb (fH x) u) (Fk u n rest p f xs (BM x)):=by
 have h:∀ hp,a9 z.c 3 hp getItem z.c.VT (.dat aR) (.dat (.str x)) (.dat (.str (fH x))) hp:=λ_=>gG (rU he).2.1
 generalize fH x=v at *
 exact z.useT (hs:=[.sub 1292046060 (.dat (.str v))]) (g:=true) rfl (an h trivial) (by kernel_rfl)
theorem QU {xs:List Nm}:RE z.c KV 3 XQ (Fk u n rest p f xs (BM x)) Fj.re (.dat (.str x)) (Fk u n rest p f xs (BM x)):=z.useE (hs:=[]) (g:=true) rfl trivial (by kernel_rfl)
noncomputable def bN (u:Nm):List Nm:=aS.filter λx=>nb (fH x) u
theorem sB:∀ (t:List Nm) (k:Nat) (xs:List Nm) (eo:List (Nm×V)),aS.drop k=t→(∀ x∈t,aO x aS=true)→xs.length+t.length≤100→(eo=[]∨∃ v,eo=[(fT,v)])→
  ∃ eo',(eo'=[]∨∃ v,eo'=[(fT,v)])∧vR z.c KV 3 XQ Fj.rt Fj.ts Fj.re 3 (.dat aR) (t.length+1) k (Fk u n rest p f xs eo) (Fk u n rest p f (xs++t.filter λx=>nb (fH x) u) eo')
 | [],k,xs,eo,h,_,_,he=>⟨eo,he,by
  rw[show xs++List.filter (λx=>nb (fH x) u) []=xs from B1 _]
  exact .stop (gD _) (by rw[List.getElem?_map,List.getElem?_eq_none (List.drop_eq_nil_iff.mp h)];rfl)⟩
 |x::t,k,xs,eo,h,hx,hl,he=>by
  have hk:aS[k]? =some x:=by have:=congrArg (·[0]?) h;simpa using this
  have ht:aS.drop (k+1)=t:=by rw[← List.drop_drop,h];rfl
  have ex:=hx x (.head _)
  have hl:xs.length+(t.length+1)≤100:=hl
  have T:=KX (z:=z) (u:=u) (n:=n) (rest:=rest) (p:=p) (f:=f) (xs:=xs) ex
  have B:=KW (z:=z) (u:=u) (n:=n) (rest:=rest) (p:=p) (f:=f) (x:=x) (xs:=xs) he
  cases hb:nb (fH x) u with
  |true=>
   rw[hb]at T
   obtain⟨eo',q1,q⟩:=sB t (k+1) (xs++[x]) (BM x) ht (λy m=>hx y (.tail _ m)) (by rw[A2];show xs.length+1+_≤_;lia) (.inr ⟨_,rfl⟩)
   refine⟨eo',q1,?_⟩
   rw[List.filter_cons,hb,if_pos rfl,show xs++x::List.filter (λx=>nb (fH x) u) t=(xs++[x])++List.filter (λx=>nb (fH x) u) t from by rw[B2];rfl]
   refine .turn (xs:=xs.map λx=>.dat (.str x)) (gD _) (by rw[List.getElem?_map,hk];rfl) B (Mr▸TsR.one T) QU rfl (A4 (by rw[List.length_map];exact A5 (by lia:xs.length≤100) (by decide))) ?_
   rw[show(Fk u n rest p f xs (BM x)).set 3 (.lst ((xs.map λx=>V.dat (.str x))++[V.dat (.str x)]))=Fk u n rest p f (xs++[x]) (BM x)from by unfold Fk;rw[List.map_append];rfl]
   exact q
  |false=>
   rw[hb]at T
   obtain⟨eo',q1,q⟩:=sB t (k+1) xs (BM x) ht (λy m=>hx y (.tail _ m)) (by lia) (.inr ⟨_,rfl⟩)
   refine⟨eo',q1,?_⟩
   rw[List.filter_cons,hb,if_neg A8]
   exact .skip (gD _) (by rw[List.getElem?_map,hk];rfl) B (Mr▸TsR.one T) q
theorem oN:(aS.all λx=>aO x aS)=true:=by kernel_rfl
noncomputable abbrev wW (f:Nat):List (Nm×V):=mV f++[(KT,.ref 3)]
theorem Vk:RS z.c HM.names 3 WX (WL u n rest p (mV f)) (bV KU 0) .next (WL u n rest p (wW f)++[.lst ((bN u).map λx=>.dat (.str x)),.gone]):=by
 obtain⟨eo',q1,q⟩:=sB (z:=z) (u:=u) (n:=n) (rest:=rest) (p:=p) (f:=f) aS 0 [] [] rfl (λx m=>List.all_eq_true.mp oN x m) (by decide+kernel) (.inl rfl)
 rw[Vj]
 refine DE (hp1:=WL u n rest p (mV f)) (v:=.dat aR) (ri:=Fj.ri) (hp3:=WL u n rest p (wW f)++[.lst ((bN u).map λx=>.dat (.str x)),.fr eo']) (es:=eo') (mP (by kernel_rfl)) (z.useE (hs:=[]) (g:=true) rfl trivial (by kernel_rfl)) (by kernel_rfl) (by kernel_rfl) q (by kernel_rfl) (by kernel_rfl) ?_ rfl
 rcases q1 with rfl|⟨v,rfl⟩
 ·kernel_rfl
 ·kernel_rfl
end
end
section
section
variable {z:bS}{u rest:Nm}{n:Int}{p f c e:Nat}{xs:List Nm}{x:Nm}
noncomputable abbrev uX (xs:List Nm):O:=.lst (xs.map λx=>.dat (.str x))
noncomputable abbrev XN (xs:List Nm):List O:=[uX xs,.gone,.lst []]
noncomputable abbrev SE (f:Nat)(x:Nm):List (Nm×V):=wW f++[(fT,.dat (.str x))]
noncomputable def bH (xs:List Nm)(n:Int):Nm:=xs.getD (Int.fmod (Int.fdiv n 216) xs.length).toNat []
theorem zK {b:Bool}(h:uV xs=b):a9 z.c 3 (WL u n rest p (wW f)++XN xs) (compareOp (bI .ne)) eP (.ref 3) (.ref 5) b (WL u n rest p (wW f)++XN xs):=by
 have q:=QR (c:=z.c) (n:=3) (hp:=WL u n rest p (wW f)++XN xs) (a:=.ref 3) (b:=.ref 5) (xs:=xs.map λx=>V.dat (.str x)) rfl rfl
 have e:uV (xs.map λx=>V.dat (.str x))=b:=by
  rw[← h]
  cases xs with
  |nil=>rfl
  |cons _ _=>rfl
 rw[e]at q
 exact q
theorem KY:RS z.c HM.names 3 WX (WL u n rest p (wW f)++[uX [],.gone]) (bV KU 1) .next (WL u n rest p (SE f [])++XN []):=
 z.useS (hs:=[.itm 1293047058 (.dat (.boo false))]) (g:=true) (ob:=a9 z.c 3 (WL u n rest p (wW f)++XN []) (compareOp (bI .ne)) eP (.ref 3) (.ref 5) false (WL u n rest p (wW f)++XN [])∧True) rfl ⟨zK rfl,trivial⟩ (by kernel_rfl)
theorem QV (hx:xs≠[])(hl:xs.length≤100):RS z.c HM.names 3 WX (WL u n rest p (wW f)++[uX xs,.gone]) (bV KU 1) .next (WL u n rest p (SE f (bH xs n))++XN xs):=by
 obtain⟨k,hk,lk⟩:=bM (Int.fdiv n 216) xs.length (List.length_pos_iff.mpr hx)
 have e:bH xs n=xs.getD k []:=by unfold bH;rw[hk];rfl
 have hm:(xs.map λx=>V.dat (.str x)).length=xs.length:=List.length_map _
 have hv:V.dat (.int (Int.fmod (Int.fdiv n 216) (xs.map λx=>V.dat (.str x)).length))=V.dat (.int k):=by rw[hm,hk]
 have i:a9 z.c 3 (WL u n rest p (wW f)++XN xs) getItem z.c.VT (.ref 3) (.dat (.int k)) (.dat (.str (bH xs n))) (WL u n rest p (wW f)++XN xs):=by
  rw[e]
  exact eF (xs:=xs.map λx=>V.dat (.str x)) rfl (oL (f:=V.dat ∘ D.str) (xs:=xs) lk) (A4 (A5 (A5 (Nat.le_of_lt lk) hl) (by decide)))
 have q:=zK (z:=z) (u:=u) (n:=n) (rest:=rest) (p:=p) (f:=f) (xs:=xs) (b:=true) (by cases xs with|nil=>exact absurd rfl hx|cons _ _=>rfl)
 have g:Nat.ble (xs.map λx=>V.dat (.str x)).length lim=true:=li (by rw[hm];lia)
 have g0:(!gU (xs.map λx=>V.dat (.str x)).length 0)=true:=by
  rw[hm]
  cases xs with
  |nil=>exact absurd rfl hx
  |cons _ _=>rfl
 generalize bH xs n=y at *
 exact z.useS (hs:=[.itm 1293047058 (.dat (.boo true)),.val 1293021042 (.dat (.int k)),.itm 1293015043 (.dat (.str y))]) (g:=cg [(true,!gU (xs.map λx=>V.dat (.str x)).length 0),(true,Nat.ble (xs.map λx=>V.dat (.str x)).length lim)]) (aB g0 (aB g aG)) (an i (an hv (an q trivial))) (by kernel_rfl)
noncomputable abbrev hN (u:Nm)(n:Int)(rest:Nm)(p f:Nat)(xs:List Nm)(x:Nm):List Hi:=[.tst 1284007015 false,.tst 1288009017 false,.tst 1291009017 true,.stm 1292 .next (WL u n rest p (wW f)++[uX xs,.gone]),.stm 1293 .next (WL u n rest p (SE f x)++XN xs)]
noncomputable abbrev SF (f:Nat)(l:List (Bool×Bool)):Bool:=cg (l++[(true,aX f 5),(false,aX f 2),(false,aX f 2)])
noncomputable abbrev QW (z:bS)(u:Nm)(n:Int)(rest:Nm)(p f:Nat)(xs:List Nm):Prop:=RS z.c HM.names 3 WX (WL u n rest p (mV f)) (bV KU 0) .next (WL u n rest p (wW f)++[uX xs,.gone])
noncomputable abbrev SG (z:bS)(u:Nm)(n:Int)(rest:Nm)(p f:Nat)(xs:List Nm)(x:Nm):Prop:=RS z.c HM.names 3 WX (WL u n rest p (wW f)++[uX xs,.gone]) (bV KU 1) .next (WL u n rest p (SE f x)++XN xs)
theorem qK (h2:2≤f)(h5:f<5):cg [(true,aX f 5),(false,aX f 2),(false,aX f 2)]=true:=aB (gB (b:=5) h5) (aB (mH (b:=2) h2) (aB (mH (b:=2) h2) aG))
noncomputable abbrev Fm (n:Int)(f:Nat):Prop:=V.dat (.int (Int.fmod (Int.fdiv n 27) 8))=V.dat (.int f)
noncomputable abbrev La (z:bS)(x:Nm)(e:Nat):Prop:=∀ hp,a9 z.c 3 hp getItem z.c.VT (.dat (.str x)) (.dat (.int (-1))) (.dat (.str [e])) hp
theorem Vl (hv:Fm n f)(h2:2≤f)(h5:f<5)(r1:QW z u n rest p f xs)(r2:SG z u n rest p f xs x)(hx:nb x []=false)(hl:x.length≤100)(i:La z x e)(he:nb [e] [59]=true):oM z u n rest p ([38]++x) []:=
 z.use (hs:=[.val 1283011022 (.dat (.int f))]++hN u n rest p f xs x++[.tst 1294011021 true,.sub 1294026034 (.dat (.str [e])),.tst 1294026041 true]) (o:=.fz [6,7] []) (g:=SF f [(true,Nat.ble (([38]:Nm).length+x.length) lim),(true,nb [e] [59]),(true,!nb x [])]) (aB (li (by show 1+_≤_;lia)) (aB he (aB (congrArg (!·) hx) (qK h2 h5)))) (an i (an r2 (an r1 (an hv trivial)))) (by kernel_rfl)
theorem Vm (hv:Fm n f)(h2:2≤f)(h5:f<5)(r1:QW z u n rest p f xs)(r2:SG z u n rest p f xs x)(hx:nb x []=false)(hl:x.length≤100)(hr:rest.length≤19000)(i:La z x e)(he:nb [e] [59]=false)(hy:cG (x++rest)=x)(ha:(Nat.blt 1 p&&eO (rest.take 1) o9)=false):oM z u n rest p ([38]++x) [aA]:=by
 have lg:=iI z (rest:=x++rest) (by rw[A2];lia)
 rw[hy]at lg
 have hxx:nb x x=true:=eW _
 have g1:Nat.ble (x.length+rest.length) lim=true:=li (by lia)
 have g2:Nat.ble (([38]:Nm).length+x.length) lim=true:=li (by show 1+_≤_;lia)
 cases hp:Nat.blt 1 p with
 |false=>
  have hp':aX 1 p=false:=mH (a:=1) (b:=p) (Nat.le_of_not_lt λq=>A8 (hp.symm.trans (A4 q)))
  exact z.use (hs:=[.val 1283011022 (.dat (.int f))]++hN u n rest p f xs x++[.tst 1294011021 true,.sub 1294026034 (.dat (.str [e])),.tst 1294026041 false,.tst 1296011021 true,.cal 808 2 [] (.dat (.str x)) [],.tst 1296026059 true,.tst 1296070079 false]) (o:=.fz [6,7] []) (g:=SF f [(true,Nat.ble (([38]:Nm).length+x.length) lim),(false,aX 1 p),(true,nb x x),(true,Nat.ble (x.length+rest.length) lim),(true,!nb x []),(false,nb [e] [59]),(true,!nb x [])]) (aB g2 (aB hp' (aB hxx (aB g1 (aB (congrArg (!·) hx) (aB he (aB (congrArg (!·) hx) (qK h2 h5)))))))) (an lg (an i (an r2 (an r1 (an hv trivial))))) (by kernel_rfl)
 |true=>
  have hp':aX 1 p=true:=gB (a:=1) (b:=p) (A3 hp)
  rw[hp,Bool.true_and]at ha
  have a:=eH z (rest.take 1) o9
  rw[ha]at a
  have tv:=lN rest
  generalize rest.take 1=y at *
  exact z.use (hs:=[.val 1283011022 (.dat (.int f))]++hN u n rest p f xs x++[.tst 1294011021 true,.sub 1294026034 (.dat (.str [e])),.tst 1294026041 false,.tst 1296011021 true,.cal 808 2 [] (.dat (.str x)) [],.tst 1296026059 true,.tst 1296070079 true,.val 1296095103 (.dat (.str y)),.cal 815 2 [] (.dat (.boo false)) []]) (o:=.fz [6,7] []) (g:=SF f [(true,Nat.ble (([38]:Nm).length+x.length) lim),(true,Nat.ble rest.length lim),(true,aX 1 p),(true,nb x x),(true,Nat.ble (x.length+rest.length) lim),(true,!nb x []),(false,nb [e] [59]),(true,!nb x [])]) (aB g2 (aB (li (by lia)) (aB hp' (aB hxx (aB g1 (aB (congrArg (!·) hx) (aB he (aB (congrArg (!·) hx) (qK h2 h5))))))))) (an a (an tv (an lg (an i (an r2 (an r1 (an hv trivial))))))) (by kernel_rfl)
noncomputable abbrev XR (z:bS)(u:Nm)(n:Int)(rest:Nm)(p f:Nat)(xs:List Nm)(x:Nm):Prop:=RS z.c HM.names 3 WX (WL u n rest p (mV f)) XM .next (WL u n rest p (SE f x)++XN xs)
theorem Vn (h2:2≤f)(h5:f<5)(r1:QW z u n rest p f []):XR z u n rest p f [] []:=
 z.useS (hs:=hN u n rest p f [] []) (g:=SF f []) (ob:=SG z u n rest p f [] []∧QW z u n rest p f []∧True) (qK h2 h5) ⟨KY,r1,trivial⟩ (by kernel_rfl)
theorem Vo (h2:2≤f)(h5:f<5)(r1:QW z u n rest p f xs)(r2:SG z u n rest p f xs x)(hx:nb x []=false)(hl:x.length≤100)(hr:rest.length≤19000)(i:La z x e)(he:nb [e] [59]=false)(hy:nb (cG (x++rest)) x=false):XR z u n rest p f xs x:=by
 have lg:=iI z (rest:=x++rest) (by rw[A2];lia)
 have g1:Nat.ble (x.length+rest.length) lim=true:=li (by lia)
 generalize cG (x++rest)=y at *
 exact z.useS (hs:=hN u n rest p f xs x++[.tst 1294011021 true,.sub 1294026034 (.dat (.str [e])),.tst 1294026041 false,.tst 1296011021 true,.cal 808 2 [] (.dat (.str y)) [],.tst 1296026059 false]) (g:=SF f [(false,nb y x),(true,Nat.ble (x.length+rest.length) lim),(true,!nb x []),(false,nb [e] [59]),(true,!nb x [])]) (aB hy (aB g1 (aB (congrArg (!·) hx) (aB he (aB (congrArg (!·) hx) (qK h2 h5)))))) (an lg (an i (an r2 (an r1 trivial)))) (by kernel_rfl)
theorem Vp (h2:2≤f)(h5:f<5)(r1:QW z u n rest p f xs)(r2:SG z u n rest p f xs x)(hx:nb x []=false)(hl:x.length≤100)(hr:rest.length≤19000)(i:La z x e)(he:nb [e] [59]=false)(hy:cG (x++rest)=x)(hp:1<p)(ha:eO (rest.take 1) o9=true):XR z u n rest p f xs x:=by
 have lg:=iI z (rest:=x++rest) (by rw[A2];lia)
 rw[hy]at lg
 have hxx:nb x x=true:=eW _
 have g1:Nat.ble (x.length+rest.length) lim=true:=li (by lia)
 have hp':aX 1 p=true:=gB (a:=1) (b:=p) hp
 have a:=eH z (rest.take 1) o9
 rw[ha]at a
 have tv:=lN rest
 generalize rest.take 1=y at *
 exact z.useS (hs:=hN u n rest p f xs x++[.tst 1294011021 true,.sub 1294026034 (.dat (.str [e])),.tst 1294026041 false,.tst 1296011021 true,.cal 808 2 [] (.dat (.str x)) [],.tst 1296026059 true,.tst 1296070079 true,.val 1296095103 (.dat (.str y)),.cal 815 2 [] (.dat (.boo true)) []]) (g:=SF f [(true,Nat.ble rest.length lim),(true,aX 1 p),(true,nb x x),(true,Nat.ble (x.length+rest.length) lim),(true,!nb x []),(false,nb [e] [59]),(true,!nb x [])]) (aB (li (by lia)) (aB hp' (aB hxx (aB g1 (aB (congrArg (!·) hx) (aB he (aB (congrArg (!·) hx) (qK h2 h5)))))))) (an a (an tv (an lg (an i (an r2 (an r1 trivial)))))) (by kernel_rfl)
theorem sC (hv:Fm n f)(h:XR z [c] n rest p f xs x)(hc:c≤1114111):oM z [c] n rest p ([c].map b7).flatten []:=by
 have l:=c8 hc
 have g1:Nat.ble c 2000000=true:=A4 (A5 hc (by decide))
 have g2:Nat.ble (([38,35]:Nm).length+(bJ c).length) lim=true:=li (by show 2+_≤_;lia)
 have g3:Nat.ble ((([38,35]:Nm)++bJ c).length+([59]:Nm).length) lim=true:=li (by rw[A2];show 2+_+1≤_;lia)
 have g4:Nat.ble (([c].map b7).flatten).length lim=true:=li (by show(b7 c++[]).length≤_;rw[B1];unfold b7;rw[A2,A2];show 2+_+1≤_;lia)
 exact z.use (hs:=[.val 1283011022 (.dat (.int f)),.stm 1284 .next (WL [c] n rest p (SE f x)++XN xs)]) (o:=.fz [8,9] []) (g:=cg [(true,Nat.ble (([c].map b7).flatten).length lim),(true,Nat.ble ((([38,35]:Nm)++bJ c).length+([59]:Nm).length) lim),(true,Nat.ble (([38,35]:Nm).length+(bJ c).length) lim),(true,Nat.ble c 2000000)]) (aB g4 (aB g3 (aB g2 (aB g1 aG)))) (an h (an hv trivial)) (by kernel_rfl)
end
end
section
noncomputable def XS:List Nm:=[[60],[],[34],[39],aAp]
noncomputable abbrev QX:D:=.lst (XS.map D.str)
noncomputable def oO (p:Nat):Nm:=XS.getD p []
noncomputable def cR (c p:Nat):Bool:=Txt.contains (st (oO p)) (st [c])
section
variable {z:bS}{u rest:Nm}{n:Int}{p f c:Nat}
theorem iJ:CallOk z.c 2 794 [] [] (.dat QX) []:=z.use (hs:=[]) (o:=.auto) (g:=true) rfl trivial (by kernel_rfl)
noncomputable abbrev It (z:bS)(p:Nat)(s:Nm):Prop:=∀ hp,a9 z.c 3 hp getItem z.c.VT (.dat QX) (.dat (.int p)) (.dat (.str s)) hp
theorem kB (h:p<5):It z p (oO p):=λhp=>eF (xs:=(XS.map D.str).map V.dat) rfl (by rw[List.map_map];exact oL (f:=V.dat ∘ D.str) (xs:=XS) h) (A4 (A5 (Nat.le_of_lt h) (by decide)))
noncomputable abbrev Cs (z:bS):Prop:=CallOk z.c 2 794 [] [] (.dat QX) []
noncomputable abbrev hO (f:Nat):List Hi:=[.tst 1284007015 true,.tst 1284020031 false,.tst 1288009017 true,.cal 794 2 [] (.dat QX) []]
theorem QY (hv:Fm n f)(f2:f<2)(h:nb [c] [38]=false)(hp:p<5)(hs:cR c p=false):oM z [c] n rest p [c] []:=by
 have i:=kB (z:=z) hp
 unfold cR at hs
 generalize oO p=s at *
 have e:a9 z.c 3 (WL [c] n rest p (mV f)++[.lst [],.gone,.lst []]) (compareOp (bI .eq)) eP (.ref 3) (.ref 5) true (WL [c] n rest p (mV f)++[.lst [],.gone,.lst []]):=r9 (xs:=[]) rfl rfl
 exact z.use (hs:=[.val 1283011022 (.dat (.int f))]++hO f++[.sub 1289045064 (.dat (.str s)),.tst 1289037064 false,.itm 1289011071 (.dat (.boo true))]) (o:=.fz [6,7] []) (g:=cg [(false,Txt.contains (st s) (st [c])),(true,aX f 2),(false,nb [c] [38]),(true,aX f 2)])
  (ob:=a9 z.c 3 (WL [c] n rest p (mV f)++[.lst [],.gone,.lst []]) (compareOp (bI .eq)) eP (.ref 3) (.ref 5) true (WL [c] n rest p (mV f)++[.lst [],.gone,.lst []])∧It z p s∧Cs z∧Fm n f∧True) (aB hs (aB (gB (b:=2) f2) (aB h (aB (gB (b:=2) f2) aG)))) ⟨e,i,iJ,hv,trivial⟩ (by kernel_rfl)
noncomputable abbrev XO (c:Nat):List O:=[.lst [.dat (.str [c])],.gone,.lst []]
noncomputable abbrev XT (z:bS)(u:Nm)(n:Int)(rest:Nm)(p f c:Nat):Prop:=RS z.c HM.names 3 WX (WL u n rest p (mV f)) XM .next (WL u n rest p (mV f)++XO c)
noncomputable abbrev Eo (z:bS)(u:Nm)(n:Int)(rest:Nm)(p f c:Nat):Prop:=a9 z.c 3 (WL u n rest p (mV f)++XO c) (compareOp (bI .eq)) eP (.ref 3) (.ref 5) false (WL u n rest p (mV f)++XO c)
theorem Zu:Eo z u n rest p f c:=r9 (xs:=[.dat (.str [c])]) rfl rfl
theorem QZ (f2:f<2)(h:nb [c] [38]=false)(hp:p<5)(hs:cR c p=true):XT z [c] n rest p f c:=by
 have i:=kB (z:=z) hp
 unfold cR at hs
 generalize oO p=s at *
 exact z.useS (hs:=hO f++[.sub 1289045064 (.dat (.str s)),.tst 1289037064 true,.itm 1289011071 (.dat (.boo false))]) (g:=cg [(true,Txt.contains (st s) (st [c])),(true,aX f 2),(false,nb [c] [38]),(true,aX f 2)])
  (ob:=Eo z [c] n rest p f c∧It z p s∧Cs z∧True) (aB hs (aB (gB (b:=2) f2) (aB h (aB (gB (b:=2) f2) aG)))) ⟨Zu,i,iJ,trivial⟩ (by kernel_rfl)
theorem KZ (hv:Fm n f)(h:XT z [c] n rest p f c)(hc:c≤1114111):oM z [c] n rest p ([c].map b7).flatten []:=by
 have l:=c8 hc
 have g1:Nat.ble c 2000000=true:=A4 (A5 hc (by decide))
 have g2:Nat.ble (([38,35]:Nm).length+(bJ c).length) lim=true:=li (by show 2+_≤_;lia)
 have g3:Nat.ble ((([38,35]:Nm)++bJ c).length+([59]:Nm).length) lim=true:=li (by rw[A2];show 2+_+1≤_;lia)
 have g4:Nat.ble (([c].map b7).flatten).length lim=true:=li (by show(b7 c++[]).length≤_;rw[B1];unfold b7;rw[A2,A2];show 2+_+1≤_;lia)
 exact z.use (hs:=[.val 1283011022 (.dat (.int f)),.stm 1284 .next (WL [c] n rest p (mV f)++XO c)]) (o:=.fz [8,9] []) (g:=cg [(true,Nat.ble (([c].map b7).flatten).length lim),(true,Nat.ble ((([38,35]:Nm)++bJ c).length+([59]:Nm).length) lim),(true,Nat.ble (([38,35]:Nm).length+(bJ c).length) lim),(true,Nat.ble c 2000000)]) (aB g4 (aB g3 (aB g2 (aB g1 aG)))) (an h (an hv trivial)) (by kernel_rfl)
noncomputable abbrev Zv (f:Nat):List Hi:=[.tst 1284007015 true,.tst 1288009017 true,.cal 794 2 [] (.dat QX) []]
theorem sE (hv:Fm n f)(f2:f<2)(hp:p<4):oM z [61,8421] n rest p [61,8421] []:=by
 have i:=kB (z:=z) (p:=p) (by lia)
 have hs:Txt.contains (st (oO p)) (st [61])=false∧Txt.contains (st (oO p)) (st [8421])=false:=by
  rcases(by lia:p=0∨p=1∨p=2∨p=3)with rfl|rfl|rfl|rfl <;>exact⟨by kernel_rfl,by kernel_rfl⟩
 generalize oO p=s at *
 have e:a9 z.c 3 (WL [61,8421] n rest p (mV f)++[.lst [],.gone,.lst []]) (compareOp (bI .eq)) eP (.ref 3) (.ref 5) true (WL [61,8421] n rest p (mV f)++[.lst [],.gone,.lst []]):=r9 (xs:=[]) rfl rfl
 exact z.use (hs:=[.val 1283011022 (.dat (.int f))]++Zv f++[.sub 1289045064 (.dat (.str s)),.tst 1289037064 false,.cal 794 2 [] (.dat QX) [],.sub 1289045064 (.dat (.str s)),.tst 1289037064 false,.itm 1289011071 (.dat (.boo true))]) (o:=.fz [6,7] []) (g:=cg [(false,Txt.contains (st s) (st [8421])),(false,Txt.contains (st s) (st [61])),(true,aX f 2),(true,aX f 2)])
  (ob:=a9 z.c 3 (WL [61,8421] n rest p (mV f)++[.lst [],.gone,.lst []]) (compareOp (bI .eq)) eP (.ref 3) (.ref 5) true (WL [61,8421] n rest p (mV f)++[.lst [],.gone,.lst []])∧It z p s∧Cs z∧It z p s∧Cs z∧Fm n f∧True) (aB hs.2 (aB hs.1 (aB (gB (b:=2) f2) (aB (gB (b:=2) f2) aG)))) ⟨e,i,iJ,i,iJ,hv,trivial⟩ (by kernel_rfl)
theorem Qa (f2:f<2):XT z [61,8421] n rest 4 f 61:=by
 have i:It z 4 aAp:=kB (z:=z) (p:=4) (by decide)
 exact z.useS (hs:=Zv f++[.sub 1289045064 (.dat (.str aAp)),.cal 794 2 [] (.dat QX) [],.sub 1289045064 (.dat (.str aAp)),.itm 1289011071 (.dat (.boo false))]) (g:=cg [(true,aX f 2),(true,aX f 2)])
  (ob:=Eo z [61,8421] n rest 4 f 61∧It z 4 aAp∧Cs z∧It z 4 aAp∧Cs z∧True) (aB (gB (b:=2) f2) (aB (gB (b:=2) f2) aG)) ⟨Zu,i,iJ,i,iJ,trivial⟩ (by kernel_rfl)
theorem Ka (hv:Fm n f)(h:XT z [61,8421] n rest p f 61):oM z [61,8421] n rest p ([61,8421].map b7).flatten []:=by
 have l1:=c8 (c:=61) (by decide)
 have l2:=c8 (c:=8421) (by decide)
 have a2:Nat.ble (([38,35]:Nm).length+(bJ 61).length) lim=true:=li (by show 2+_≤_;lia)
 have a3:Nat.ble ((([38,35]:Nm)++bJ 61).length+([59]:Nm).length) lim=true:=li (by rw[A2];show 2+_+1≤_;lia)
 have b2:Nat.ble (([38,35]:Nm).length+(bJ 8421).length) lim=true:=li (by show 2+_≤_;lia)
 have b3:Nat.ble ((([38,35]:Nm)++bJ 8421).length+([59]:Nm).length) lim=true:=li (by rw[A2];show 2+_+1≤_;lia)
 have g4:Nat.ble (([61,8421].map b7).flatten).length lim=true:=li (by show(b7 61++(b7 8421++[])).length≤_;rw[B1];unfold b7;simp only[A2];show 2+(bJ 61).length+1+(2+(bJ 8421).length+1)≤_;lia)
 exact z.use (hs:=[.val 1283011022 (.dat (.int f)),.stm 1284 .next (WL [61,8421] n rest p (mV f)++XO 61)]) (o:=.fz [8,9] []) (g:=cg [(true,Nat.ble (([61,8421].map b7).flatten).length lim),(true,Nat.ble ((([38,35]:Nm)++bJ 8421).length+([59]:Nm).length) lim),(true,Nat.ble (([38,35]:Nm).length+(bJ 8421).length) lim),(true,Nat.ble ((([38,35]:Nm)++bJ 61).length+([59]:Nm).length) lim),(true,Nat.ble (([38,35]:Nm).length+(bJ 61).length) lim)]) (aB g4 (aB b3 (aB b2 (aB a3 (aB a2 aG))))) (an h (an hv trivial)) (by kernel_rfl)
end
end
section
noncomputable def c9 (u:Nm):Nm:=(u.map b7).flatten
noncomputable def fV (u:Nm)(n:Int)(rest:Nm)(p:Nat):Nm×List Nm:=
 let x:=bH (bN u) n
 bif nb x []then(c9 u,[])else bif nb [cA x] [59]then([38]++x,[])else
  bif nb (cG (x++rest)) x&& !(Nat.blt 1 p&&eO (rest.take 1) o9)then([38]++x,[aA])else(c9 u,[])
noncomputable def fE (u rest:Nm)(p:Nat):Nm×List Nm:=
 bif nb u [38]then(match fN rest (Nat.blt 1 p)with|some l=>([38],l)|none=>(c9 u,[]))
 else bif u.any (cR · p)then(c9 u,[])else(u,[])
noncomputable def i5 (f:Nat)(c:Nat)(rest:Nm):Nm×List Nm:=
 bif Nat.beq f 6 then((aAs++dR 6 c [])++[59],[])
 else bif Nat.beq f 5 then(bif eO (rest.take 1) (lM++[59])then(c9 [c],[])else([38,35]++bJ c,[aJ]))
 else bif eO (rest.take 1) (j9++[59])then(c9 [c],[])else([38,35]++([120]++dR 6 c []),[aJ])
noncomputable def oP (f:Nat)(u:Nm)(n:Int)(rest:Nm)(p:Nat):Nm×List Nm:=
 bif Nat.blt f 2 then fE u rest p else bif Nat.blt f 5 then fV u n rest p else match u with
 | [c]=>i5 f c rest
 |_=>(c9 u,[])
noncomputable def cH (u:Nm)(n:Int)(rest:Nm)(p:Nat):Nm×List Nm:=oP (Int.fmod (Int.fdiv n 27) 8).toNat u n rest p
inductive Uok:Nm→Prop
 |one {c:Nat} (h:c≤1114111):Uok [c]
 |two:Uok [61,8421]
theorem kC:∀ (f c:Nat) (row:Nm),(dR f c row).length≤f+row.length
 |0,_,_=>Nat.le_of_eq (Nat.zero_add _).symm
 |f+1,c,row=>by
  show(bif Nat.beq c 0 then row else dR f (c/16) ([jD (c%16)]++row)).length≤_
  cases Nat.beq c 0 with
  |true=>show row.length≤_;lia
  |false=>exact A5 (kC f _ _) (by show f+(row.length+1)≤_;lia)
theorem zL:bN [61,8421]=[[98,110,101,59]]:=by kernel_rfl
section
variable {z:bS}{u rest:Nm}{n:Int}{p f c:Nat}
theorem lO (h:bN u≠[]):bH (bN u) n∈aS:=by
 obtain⟨k,hk,lk⟩:=bM (Int.fdiv n 216) (bN u).length (List.length_pos_iff.mpr h)
 have e:bH (bN u) n=(bN u)[k]:=by
  unfold bH
  rw[hk]
  show((bN u)[k]?).getD []=_
  rw[List.getElem?_eq_getElem lk]
  rfl
 rw[e]
 exact(List.mem_filter.mp (List.getElem_mem lk)).1
theorem Kb:Nat.ble aS.length 50=true:=by kernel_rfl
theorem Kc:(bN u).length≤100:=A5 (List.length_filter_le ..) (A5 (A3 Kb) (by decide))
theorem r92:QW z u n rest p f (bN u):=Vk
theorem Yv {x:Nm}(h:nb x []=false):La z x (cA x):=λhp=>aN (rV λq=>by rw[q]at h;cases h) rfl hp
theorem Kd (hv:Fm n f)(hu:Uok u)(hr:rest.length≤19000)(h2:2≤f)(h5:f<5):oM z u n rest p (fV u n rest p).1 (fV u n rest p).2:=by
 have r1:=r92 (z:=z) (u:=u) (n:=n) (rest:=rest) (p:=p) (f:=f)
 cases hn:bN u with
 |nil=>
  have e:fV u n rest p=(c9 u,[]):=by unfold fV;rw[hn];rfl
  rw[e]
  rw[hn]at r1
  cases hu with
  |one hc=>exact sC hv (Vn h2 h5 r1) hc
  |two=>rw[zL]at hn;cases hn
 |cons y t=>
  have ne:bN u≠[]:=by rw[hn];exact nofun
  have r2:SG z u n rest p f (bN u) (bH (bN u) n):=QV ne Kc
  have m:=lO (n:=n) ne
  have lx:=A3 (List.all_eq_true.mp mU _ m)
  have nx:nb (bH (bN u) n) []=false:=by
   cases q:nb (bH (bN u) n) []with
   |false=>rfl
   |true=>exact absurd (b9 q) (rU (List.all_eq_true.mp oN _ m)).1
  have tw:u=[61,8421]→cA (bH (bN u) n)=59:=λq=>by
   rw[q,zL]
   unfold bH
   obtain⟨k,hk,lk⟩:=bM (Int.fdiv n 216) 1 (by decide)
   show cA (([[98,110,101,59]]:List Nm).getD (Int.fmod (Int.fdiv n 216) ((1:Nat):Int)).toNat [])=59
   rw[hk]
   obtain rfl:k=0:=by lia
   rfl
  show oM z u n rest p (bif nb (bH (bN u) n) []then _ else _:Nm×List Nm).1 (bif nb (bH (bN u) n) []then _ else _:Nm×List Nm).2
  generalize bH (bN u) n=x at *
  generalize bN u=xs at *
  have lx:x.length≤100:=A5 lx (by decide)
  rw[nx]
  have i:=Yv (z:=z) nx
  cases he:nb [cA x] [59]with
  |true=>exact Vl hv h2 h5 r1 r2 nx lx i he
  |false=>
   have one:∃ c,u=[c]∧c≤1114111:=by
    cases hu with
    |one hc=>exact⟨_,rfl,hc⟩
    |two=>rw[tw rfl]at he;cases he
   obtain⟨c,rfl,hc⟩:=one
   show oM z [c] n rest p (bif nb (cG (x++rest)) x&& !(Nat.blt 1 p&&eO (rest.take 1) o9)then([38]++x,[aA])else(c9 [c],[]):Nm×List Nm).1 (bif nb (cG (x++rest)) x&& !(Nat.blt 1 p&&eO (rest.take 1) o9)then([38]++x,[aA])else(c9 [c],[]):Nm×List Nm).2
   cases hy:nb (cG (x++rest)) x with
   |false=>exact sC hv (Vo h2 h5 r1 r2 nx lx hr i he hy) hc
   |true=>cases hp:Nat.blt 1 p&&eO (rest.take 1) o9 with
    |false=>exact Vm hv h2 h5 r1 r2 nx lx hr i he (b9 hy) hp
    |true=>
     have q:=A0 hp
     exact sC hv (Vp h2 h5 r1 r2 nx lx hr i he (b9 hy) (A3 q.1) q.2) hc
theorem Ke (hf:Int.fmod (Int.fdiv n 27) 8=f)(hu:Uok u)(hr:rest.length≤19000)(f2:f<2)(hp:p<5):oM z u n rest p (fE u rest p).1 (fE u rest p).2:=by
 have hv:Fm n f:=congrArg (λi=>V.dat (.int i)) hf
 unfold fE
 cases hu with
 | @one c hc=>
  cases h:nb [c] [38]with
  |true=>
   obtain rfl:38=c:=cL h
   cases hb:fN rest (Nat.blt 1 p)with
   |some l=>exact QS hf f2 (by lia) hb
   |none=>exact sA hf (QT f2 (by lia) hb) hc
  |false=>
   show oM z [c] n rest p (bif cR c p||false then _ else _:Nm×List Nm).1 (bif cR c p||false then _ else _:Nm×List Nm).2
   cases hs:cR c p with
   |true=>exact KZ hv (QZ f2 h hp hs) hc
   |false=>exact QY hv f2 h hp hs
 |two=>
  rcases(by lia:p=4∨p=0∨p=1∨p=2∨p=3)with rfl|rfl|rfl|rfl|rfl
  ·rw[show(([61,8421]:Nm).any (cR · 4))=true from by kernel_rfl]
   exact Ka hv (Qa f2)
  ·rw[show(([61,8421]:Nm).any (cR · 0))=false from by kernel_rfl]
   exact sE hv f2 (by decide)
  ·rw[show(([61,8421]:Nm).any (cR · 1))=false from by kernel_rfl]
   exact sE hv f2 (by decide)
  ·rw[show(([61,8421]:Nm).any (cR · 2))=false from by kernel_rfl]
   exact sE hv f2 (by decide)
  ·rw[show(([61,8421]:Nm).any (cR · 3))=false from by kernel_rfl]
   exact sE hv f2 (by decide)
theorem Qb (hf:Int.fmod (Int.fdiv n 27) 8=f)(hc:c≤1114111)(hr:rest.length≤19000)(h5:f=5∨f=6∨f=7):oM z [c] n rest p (i5 f c rest).1 (i5 f c rest).2:=by
 have h6:(dR 6 c []).length≤20:=A5 (kC 6 c []) (by decide)
 rcases h5 with rfl|rfl|rfl
 ·show oM z [c] n rest p (bif eO (rest.take 1) (lM++[59])then _ else _:Nm×List Nm).1 (bif eO (rest.take 1) (lM++[59])then _ else _:Nm×List Nm).2
  cases ha:eO (rest.take 1) (lM++[59])with
  |true=>exact sA hf (Vg (by lia) ha) hc
  |false=>exact Yt hf (by lia) hc ha
 ·exact Ve hf hc h6
 ·show oM z [c] n rest p (bif eO (rest.take 1) (j9++[59])then _ else _:Nm×List Nm).1 (bif eO (rest.take 1) (j9++[59])then _ else _:Nm×List Nm).2
  cases ha:eO (rest.take 1) (j9++[59])with
  |true=>exact sA hf (Vh (by lia) ha) hc
  |false=>exact Yu hf (by lia) hc h6 ha
theorem BN (z:bS)(n:Int)(hu:Uok u)(hr:rest.length≤19000)(hp:p<5):oM z u n rest p (cH u n rest p).1 (cH u n rest p).2:=by
 obtain⟨f,hf,lf⟩:=bM (Int.fdiv n 27) 8 (by decide)
 have hf:Int.fmod (Int.fdiv n 27) 8=f:=hf
 have hv:Fm n f:=congrArg (λi=>V.dat (.int i)) hf
 unfold cH
 rw[hf]
 show oM z u n rest p (oP f u n rest p).1 (oP f u n rest p).2
 unfold oP
 cases h2:Nat.blt f 2 with
 |true=>exact Ke hf hu hr (A3 h2) hp
 |false=>
  have h2:2≤f:=Nat.le_of_not_lt λq=>A8 (h2.symm.trans (A4 q))
  cases h5:Nat.blt f 5 with
  |true=>exact Kd hv hu hr h2 (A3 h5)
  |false=>
   have h5:5≤f:=Nat.le_of_not_lt λq=>A8 (h5.symm.trans (A4 q))
   have h:f=5∨f=6∨f=7:=by lia
   cases hu with
   |one hc=>exact Qb hf hc hr h
   |two=>exact KS hf (Vi h)
end
end
section
theorem Fp:∀ us:List Value,us.length≤10→slicePick us.toArray none none (some (-1))=us.reverse.toArray
 | [],_=>by kernel_rfl
 | [_],_=>by kernel_rfl
 | [_,_],_=>by kernel_rfl
 | [_,_,_],_=>by kernel_rfl
 | [_,_,_,_],_=>by kernel_rfl
 | [_,_,_,_,_],_=>by kernel_rfl
 | [_,_,_,_,_,_],_=>by kernel_rfl
 | [_,_,_,_,_,_,_],_=>by kernel_rfl
 | [_,_,_,_,_,_,_,_],_=>by kernel_rfl
 | [_,_,_,_,_,_,_,_,_],_=>by kernel_rfl
 | [_,_,_,_,_,_,_,_,_,_],_=>by kernel_rfl
 |_::_::_::_::_::_::_::_::_::_::_::_,h=>absurd h (by simp only[B3];lia)
theorem Fq {α β:Type}{R:α→β→Prop}:∀ {xs:List α} {ys:List β},R2 R xs ys→R2 R xs.reverse ys.reverse
 | [],_,h=>(show _=[]from h)▸rfl
 |_::_,_,.mk a b=>by
  rw[List.reverse_cons,List.reverse_cons]
  exact R2.app (Fq b) (R2.one a)
section
variable {c:Cx}{sc:aH}{n:Nat}{F:Fx}{hp hp1 hp2:List O}{r x:Expr}{u:V}{xs:List V}{ap p:Pos}
theorem Kf (h1:RE c sc n F hp r u hp1)(h2:RE c sc n F hp1 x (.dat (.int (-1))) hp2)(h:iA u hp2=true)(e:items u hp2=some xs)(g:xs.length≤10):RE c sc n F hp (.Subscript r (.Slice none none (some x) ap) p) (.ref hp2.length) (hp2++[.lst xs.reverse]):=λA W s env z=>
 Subscript_ (h1.go z λW1 u1 s1 z1 L1 x1=>wpAny_Slice (wpAny_pure (wpAny_pure (h2.go z1 λW3 u3 s3 z3 L3 x3=>by
  rcases(x3:IsI (-1) u3)with⟨t3⟩
  have q:=z3.a.rel.allocZ (ob:={cls:=.type "slice",data:=.fields #[.none,.none,.int (-1) t3]}) rfl
  have L:Lat W3 hp2 s3 _ hp2 {s3 with heap:=_}:=.of (t:=s3.toks) q.2
  have z4:At c n A _ hp2 {s3 with heap:=_}:=z3.a.next L q.1 (A7 _)
  have x1':=(x1.mono L3.le).mono L.le
  refine(vF z4 x1' h).elim λT t=>t.elim λid t=>h9 ((L1.trans L3).trans L) (tail_any (ops:=[u1,.ref s3.heap.objs.size]) t.1 t.2 ?_ rfl)
  match u1,aP z4.rel x1' e with
  |_,.mk l us k I d=>
   refine wpAny_getItem_list_slice ⟨_,I,rfl,k,rfl⟩ ⟨_,Heap.get?_push_size _ rfl,rfl,rfl⟩ .none .none (.int _ _) (by decide) ?_ (by rw[List.size_toArray,R2.len d];exact A5 g (by decide))
   rw[Fp us (by rw[R2.len d];exact g)]
   exact e8 z4 (Fq d)))))
end
end
section
noncomputable def aQ (ns:List Int):List D:=ns.map D.int
noncomputable def bQ (ms:List Int):Nat:=(Int.fmod (ms.length+(ms.take 1).sum) 5).toNat
noncomputable def LB (S:D)(ms:List Int)(p:Nat)(w:Nm)(due:List Nm)(eo:List (Nm×V))(X:List O):List O:=[.fr ([(cF,.dat S),(dW,.dat (.lst (aQ ms))),(b5,.dat (.int p)),(gC,.dat (.str w)),(uA,.dat (.lst (o8 due)))]++eo)]++X
section
variable {z:bS}{S:D}{ms:List Int}{p:Nat}{w:Nm}{due:List Nm}{n:Int}
theorem Ft (ns:List Int)(k:Nat):dX (dl (aQ ns)) none (some (Int.ofNat k))=dl (aQ (ns.take k)):=by rw[show dX (dl (aQ ns)) none (some (Int.ofNat k))=(dl (aQ ns)).take k from wT _ k];unfold dl aQ;rw[List.map_take,List.map_take]
theorem Qc {ns:List Int}(hn:ns.length≤1000):RX z.c aL.names 13 LX [.fr [(cF,.dat (.lst (aQ ns)))]] [bV aL.body 0] .next [.fr [(cF,.dat (.lst (aQ ns))),(dW,.ref 1)],.dls (aQ (ns.take 10))]:=by
 have hb:Nat.ble (dl (aQ ns)).length lim=true:=li (by unfold dl aQ;rw[List.length_map,List.length_map];lia)
 have e:=Ft ns 10
 have h:RX z.c aL.names 13 LX [.fr [(cF,.dat (.lst (aQ ns)))]] [bV aL.body 0] .next [.fr [(cF,.dat (.lst (aQ ns))),(dW,.ref 1)],.lst (dX (dl (aQ ns)) none (some (Int.ofNat 10)))]:=z.useX (hs:=[]) (g:=cg [(true,Nat.ble (dl (aQ ns)).length lim)]) (aB hb aG) trivial (by kernel_rfl)
 rw[e]at h
 exact eG h (l:=1) (ds:=aQ (ns.take 10)) rfl
theorem Qd (hm:ms.length≤10):RX z.c aL.names 13 LX [.fr [(cF,.dat S),(dW,.ref 1)],.dls (aQ ms)] [bV aL.body 1,bV aL.body 2,bV aL.body 3] .next ([.fr [(cF,.dat S),(dW,.ref 1),(b5,.dat (.int (bQ ms))),(gC,.dat (.str [])),(uA,.ref 3)],.dls (aQ ms),.lst (dl (aQ (ms.take 1))),.lst []]):=by
 cases ms with
 |nil=>exact z.useX (hs:=[]) (g:=true) rfl trivial (by kernel_rfl)
 |cons a t=>
  have ln:(dl (aQ (a::t))).length=(a::t).length:=by unfold dl aQ;rw[List.length_map,List.length_map]
  have hb:Nat.ble (dl (aQ (a::t))).length lim=true:=li (by rw[ln];lia)
  obtain⟨k,hk,_⟩:=bM ((a::t).length+[a].sum) 5 (by decide)
  have e:bQ (a::t)=k:=by
   unfold bQ
   rw[show Int.fmod (((a::t).length:Int)+((a::t).take 1).sum) 5=(k:Int)from hk]
   rfl
  have hv:V.dat (.int (Int.fmod ((dl (aQ (a::t))).length+rB [a] 0) 5))=V.dat (.int k):=by
   rw[ln,show rB [a] 0=[a].sum from by show 0+a=a+0;rw[Int.add_comm]]
   exact congrArg (λi=>V.dat (.int i)) hk
  rw[e]
  exact z.useX (hs:=[.val 1307012049 (.dat (.int k))]) (g:=cg [(true,Nat.ble (dl (aQ (a::t))).length lim),(true,Nat.ble (dl (aQ (a::t))).length lim)]) (aB hb (aB hb aG)) (an hv trivial) (by kernel_rfl)
theorem Vq {ns:List Int}(hn:ns.length≤1000):RX z.c aL.names 13 LX [.fr [(cF,.dat (.lst (aQ ns)))]] (aL.body.take 4) .next (LB (.lst (aQ ns)) (ns.take 10) (bQ (ns.take 10)) [] [] [] []):=by
 have h1:=Qc (z:=z) hn
 have h2:=Qd (z:=z) (S:=.lst (aQ ns)) (ms:=ns.take 10) (List.length_take_le ..)
 have e:aL.body.take 4=[bV aL.body 0]++[bV aL.body 1,bV aL.body 2,bV aL.body 3]:=by kernel_rfl
 rw[e]
 have h:=eG (eG (rY h1 h2) (l:=2) (ds:=aQ ((ns.take 10).take 1)) rfl) (l:=3) (ds:=[]) rfl
 generalize ns.take 10=ms at *
 exact Mk h (qI (v:=.dat .non) (fz:=[1,3]) (τ:=[]) (by kernel_rfl))
noncomputable def pM:ForI:=Di (bV aL.body 4)
noncomputable def vN:Option (Int×Nm×List Nm)→List (Nm×V)
 |none=>[]
 |some (n,x,l)=>[(Bg,.dat (.int n)),(iH,.dat (.str x)),(oK,.dat (.lst (l.map D.str)))]
noncomputable def vB (n:Int):Option (Int×Nm×List Nm)→List (Nm×V)
 |none=>[(Bg,.dat (.int n))]
 |some (_,x,l)=>[(Bg,.dat (.int n)),(iH,.dat (.str x)),(oK,.dat (.lst (l.map D.str)))]
theorem fO (n:Int):Uok (aY n):=by
 unfold aY
 obtain⟨k,hk,lk⟩:=bM n 27 (by decide)
 have hk:Int.fmod n 27=k:=hk
 rw[hk]
 show Uok (bif Nat.blt k 26 then uN.getD k []else _)
 cases h:Nat.blt k 26 with
 |true=>
  have l26:k<26:=A3 h
  have q:∀ k,k<26→(match uN.getD k []with| [c]=>Nat.ble c 1114111|u=>nb u [61,8421])=true:=by decide+kernel
  have q:=q k l26
  show Uok (uN.getD k [])
  generalize uN.getD k []=u at *
  match u,q with
  | [c],q=>exact .one (A3 q)
  | [],q=>cases q
  |a::b::t,q=>rw[b9 q];exact .two
 |false=>
  obtain⟨m,hm,lm⟩:=bM (Int.fdiv n 216) 1113952 (by decide)
  have hm:Int.fmod (Int.fdiv n 216) 1113952=m:=hm
  rw[hm]
  exact .one (uE (by show 160+m≤_;lia))
end
end
section
theorem oR {c:Nat}(h:c≤1114111):(b7 c).length≤11:=by
 have l:=c8 h
 unfold b7
 rw[A2,A2]
 show 2+_+1≤_
 lia
theorem BO {u:Nm}(hu:Uok u):(c9 u).length≤30:=by
 cases hu with
 |one h=>
  have l:=oR h
  show(b7 _++[]).length≤30
  rw[B1]
  lia
 |two=>
  have l1:=oR (c:=61) (by decide)
  have l2:=oR (c:=8421) (by decide)
  show(b7 61++(b7 8421++[])).length≤30
  rw[B1,A2]
  lia
structure Shrt (a:Nm×List Nm):Prop where
 x:a.1.length≤30
 l:a.2.length≤1
theorem Shrt.last {u:Nm}(hu:Uok u):Shrt (c9 u,[]):=⟨BO hu,Nat.zero_le _⟩
theorem Qe {l:List Nm}:∀ {a b c:Bool},(bif a then(bif b then none else some [Fh])else bif c then none else some [Fh])=some l→l.length≤1
 |true,true,_,h=>by cases h
 |true,false,_,h=>by cases h;exact A7 _
 |false,_,true,h=>by cases h
 |false,_,false,h=>by cases h;exact A7 _
theorem Qf {l:List Nm}:∀ {a b:Bool},(bif a then some [Ys]else bif b then some [Vb]else none)=some l→l.length≤1
 |true,_,h=>by cases h;exact A7 _
 |false,true,h=>by cases h;exact A7 _
 |false,false,h=>by cases h
theorem Fu {rest:Nm}{b:Bool}{l:List Nm}(h:fN rest b=some l):l.length≤1:=by
 cases rest with
 |nil=>cases h;exact Nat.zero_le _
 |cons c t=>
  have h:(bif gP c then some []else bif nb [c] [35]then l9 (c::t)else kA (c::t) b)=some l:=h
  generalize gP c=t1 at h
  generalize nb [c] [35]=t2 at h
  cases t1 with
  |true=>cases h;exact Nat.zero_le _
  |false=>cases t2 with
   |true=>exact Qe h
   |false=>exact Qf h
theorem BP {u:Nm}{n:Int}{rest:Nm}{p:Nat}(hu:Uok u):Shrt (fV u n rest p):=by
 have hx:(bH (bN u) n).length≤20:=by
  by_cases h:bN u=[]
  ·rw[h];exact Nat.zero_le _
  ·exact A3 (List.all_eq_true.mp mU _ (lO h))
 show Shrt (bif nb (bH (bN u) n) []then _ else bif nb [cA (bH (bN u) n)] [59]then _ else bif nb (cG (bH (bN u) n++rest)) (bH (bN u) n)&& !(Nat.blt 1 p&&eO (rest.take 1) o9)then _ else _)
 generalize bH (bN u) n=x at *
 have lx:([38]++x:Nm).length≤30:=by show x.length+1≤_;lia
 cases nb x []with
 |true=>exact .last hu
 |false=>cases nb [cA x] [59]with
  |true=>exact⟨lx,Nat.zero_le _⟩
  |false=>cases nb (cG (x++rest)) x&& !(Nat.blt 1 p&&eO (rest.take 1) o9)with
   |true=>exact⟨lx,A7 _⟩
   |false=>exact .last hu
theorem BR {u rest:Nm}{p:Nat}(hu:Uok u):Shrt (fE u rest p):=by
 have lu:u.length≤30:=by cases hu <;>exact A3 rfl
 unfold fE
 cases nb u [38]with
 |true=>
  show Shrt (match fN rest (Nat.blt 1 p)with|some l=>([38],l)|none=>(c9 u,[]))
  cases h:fN rest (Nat.blt 1 p)with
  |none=>exact .last hu
  |some l=>exact⟨(A3 rfl:1≤30),Fu h⟩
 |false=>cases u.any (cR · p)with
  |true=>exact .last hu
  |false=>exact⟨lu,Nat.zero_le _⟩
theorem Fv {f c:Nat}{rest:Nm}(hc:c≤1114111):Shrt (i5 f c rest):=by
 have h6:(dR 6 c []).length≤6:=kC 6 c []
 have ld:=c8 hc
 unfold i5
 cases Nat.beq f 6 with
 |true=>exact⟨by show((aAs++dR 6 c [])++[59]:Nm).length≤30;rw[A2,A2];show 5+_+1≤_;lia,Nat.zero_le _⟩
 |false=>cases Nat.beq f 5 with
  |true=>cases eO (rest.take 1) (lM++[59])with
   |true=>exact .last (.one hc)
   |false=>exact⟨by show([38,35]++bJ c:Nm).length≤30;rw[A2];show 2+_≤_;lia,A7 _⟩
  |false=>cases eO (rest.take 1) (j9++[59])with
   |true=>exact .last (.one hc)
   |false=>exact⟨by show([38,35]++([120]++dR 6 c []):Nm).length≤30;rw[A2,A2];show 2+(1+_)≤_;lia,A7 _⟩
theorem iK {u:Nm}{n:Int}{rest:Nm}{p:Nat}(hu:Uok u):Shrt (cH u n rest p):=by
 unfold cH oP
 generalize (Int.fmod (Int.fdiv n 27) 8).toNat=f
 cases Nat.blt f 2 with
 |true=>exact BR hu
 |false=>cases Nat.blt f 5 with
  |true=>exact BP hu
  |false=>cases hu with
   |one hc=>exact Fv hc
   |two=>exact .last .two
noncomputable def oT (p:Nat)(q:Nm×List Nm)(n:Int):Nm×List Nm:=((cH (aY n) n q.1 p).1++q.1,(cH (aY n) n q.1 p).2++q.2)
section
variable {z:bS}{S:D}{ms rev:List Int}{p:Nat}{w:Nm}{due:List Nm}{n:Int}
theorem Kg {v:Option (Int×Nm×List Nm)}(hw:w.length≤10000)(hd:due.length≤10000)(hp:p<5):
  ∃ hp2,RX z.c aL.names 13 LX (LB S ms p w due (vB n v) [.dls (aQ rev)]) pM.b .next hp2∧Gc 2 hp2 (LB S ms p (oT p (w,due) n).1 (oT p (w,due) n).2 (vN (some (n,(cH (aY n) n w p).1,(cH (aY n) n w p).2))) [.dls (aQ rev)]):=by
 have cu:=Fc z n
 have hu:=fO n
 have c:=BN z n hu (rest:=w) (by lia) hp
 have s:=iK (n:=n) (rest:=w) (p:=p) hu
 show ∃ hp2,_∧Gc 2 hp2 (LB S ms p ((cH (aY n) n w p).1++w) ((cH (aY n) n w p).2++due) _ _)
 obtain⟨sx,sl⟩:=s
 generalize cH (aY n) n w p=r at *
 obtain⟨x,l⟩:=r
 generalize aY n=u at *
 have g1:Nat.ble ((dl (l.map D.str)).length+(dl (o8 due)).length) lim=true:=li (by unfold dl;rw[List.length_map,List.length_map,List.length_map,List.length_map];show l.length+_≤_;have sl:l.length≤1:=sl;lia)
 have g2:Nat.ble (x.length+w.length) lim=true:=li (by have sx:x.length≤30:=sx;lia)
 have h:RX z.c aL.names 13 LX (LB S ms p w due (vB n v) [.dls (aQ rev)]) pM.b .next [.fr [(cF,.dat S),(dW,.dat (.lst (aQ ms))),(b5,.dat (.int p)),(gC,.dat (.str (x++w))),(uA,.ref 2),(Bg,.dat (.int n)),(iH,.dat (.str x)),(oK,.dat (.lst (l.map D.str)))],.dls (aQ rev),.lst ((l.map D.str).map V.dat++dl (o8 due))]:=by
  cases v with
  |none=>exact z.useX (hs:=[.cal 801 3 [] (.dat (.str u)) [],.cal 834 4 [] (.dat (.tup [.str x,.lst (l.map D.str)])) []]) (g:=cg [(true,Nat.ble ((dl (l.map D.str)).length+(dl (o8 due)).length) lim),(true,Nat.ble (x.length+w.length) lim)]) (aB g1 (aB g2 aG)) (an c (an cu trivial)) (by kernel_rfl)
  |some v=>obtain⟨_,x0,l0⟩:=v;exact z.useX (hs:=[.cal 801 3 [] (.dat (.str u)) [],.cal 834 4 [] (.dat (.tup [.str x,.lst (l.map D.str)])) []]) (g:=cg [(true,Nat.ble ((dl (l.map D.str)).length+(dl (o8 due)).length) lim),(true,Nat.ble (x.length+w.length) lim)]) (aB g1 (aB g2 aG)) (an c (an cu trivial)) (by kernel_rfl)
 exact⟨_,eG h (l:=2) (ds:=o8 (l++due)) (by show some _=some _;unfold dl o8;rw[List.map_append,List.map_append]),qI (v:=.dat .non) (fz:=[2]) (τ:=[]) (by kernel_rfl)⟩
end
end
section
noncomputable def SH:Expr×Expr×Pos:=Xe pM.i
noncomputable def Zw:Expr:=SH.1
noncomputable def Zx:Expr:=(Na SH.2.1).1
theorem Qg:pM.i=.Subscript Zw (.Slice none none (some Zx) (Na SH.2.1).2) SH.2.2:=by kernel_rfl
section
variable {z:bS}{S:D}{ms rev:List Int}{p:Nat}{w:Nm}{due:List Nm}{n:Int}
theorem zM (hp:p<5):∀ (t:List Int) (k:Nat) (w:Nm) (due:List Nm) (v:Option (Int×Nm×List Nm)),rev.drop k=t→w.length+30*t.length≤10000→due.length+t.length≤10000→
  ∃ v',s9 z.c aL.names 13 LX pM.g pM.b 2 (.ref 1) (t.length+1) k (LB S ms p w due (vN v) [.dls (aQ rev)]) .next (LB S ms p (t.foldl (oT p) (w,due)).1 (t.foldl (oT p) (w,due)).2 (vN v') [.dls (aQ rev)])
 | [],k,w,due,v,h,_,_=>⟨v,.stop (all:=dl (aQ rev)) rfl (by unfold dl aQ;rw[List.getElem?_map,List.getElem?_map,List.getElem?_eq_none (List.drop_eq_nil_iff.mp h)];rfl)⟩
 |n::t,k,w,due,v,h,hw,hd=>by
  have hw:w.length+30 * (t.length+1)≤10000:=hw
  have hd:due.length+(t.length+1)≤10000:=hd
  have hk:rev[k]? =some n:=by have:=congrArg (·[0]?) h;simpa using this
  have ht:rev.drop (k+1)=t:=by rw[← List.drop_drop,h];rfl
  obtain⟨hp2,q,g⟩:=Kg (z:=z) (S:=S) (ms:=ms) (rev:=rev) (p:=p) (w:=w) (due:=due) (n:=n) (v:=v) (by lia) (by lia) hp
  have s:=iK (u:=aY n) (n:=n) (rest:=w) (p:=p) (fO n)
  obtain⟨v',r⟩:=zM hp t (k+1) (oT p (w,due) n).1 (oT p (w,due) n).2 (some (n,(cH (aY n) n w p).1,(cH (aY n) n w p).2)) ht (by show((cH (aY n) n w p).1++w).length+_≤_;rw[A2];have:=s.x;lia) (by show((cH (aY n) n w p).2++due).length+_≤_;rw[A2];have:=s.l;lia)
  have rg:RG z.c aL.names 13 LX (LB S ms p w due (vN v) [.dls (aQ rev)]) pM.g (.dat (.int n)) (LB S ms p w due (vB n v) [.dls (aQ rev)]):=by
   cases v with
   |none=>exact dL (by kernel_rfl) (by kernel_rfl)
   |some v=>obtain⟨_,_,_⟩:=v;exact dL (by kernel_rfl) (by kernel_rfl)
  exact⟨v',.turn (all:=dl (aQ rev)) rfl (by unfold dl aQ;rw[List.getElem?_map,List.getElem?_map,hk];rfl) rg q rfl g r⟩
noncomputable def b8 (p:Nat)(ms:List Int):Nm×List Nm:=ms.foldr (λn q=>oT p q n) ([],[])
theorem Vt (hp:p<5)(hm:ms.length≤10):∃ v,RS z.c aL.names 13 LX (LB S ms p [] [] [] []) (bV aL.body 4) .next (LB S ms p (b8 p ms).1 (b8 p ms).2 (vN v) []):=by
 obtain⟨v,r⟩:=zM (z:=z) (S:=S) (ms:=ms) (rev:=ms.reverse) hp ms.reverse 0 [] [] none rfl (by rw[List.length_reverse];show 0+_≤_;lia) (by rw[List.length_reverse];show 0+_≤_;lia)
 rw[List.foldl_reverse]at r
 have e1:(dl (aQ ms)).reverse=dl (aQ ms.reverse):=by unfold dl aQ;rw[List.map_reverse,List.map_reverse]
 have h0:RE z.c aL.names 13 LX (LB S ms p [] [] [] []) Zw (.dat (.lst (aQ ms))) (LB S ms p [] [] [] []):=z.useE (hs:=[]) (g:=true) rfl trivial (by kernel_rfl)
 have h1:RE z.c aL.names 13 LX (LB S ms p [] [] [] []) Zx (.dat (.int (-1))) (LB S ms p [] [] [] []):=z.useE (hs:=[]) (g:=true) rfl trivial (by kernel_rfl)
 have h2:=eG (Kf (ap:=(Na SH.2.1).2) (p:=SH.2.2) h0 h1 rfl (xs:=dl (aQ ms)) rfl (by unfold dl aQ;rw[List.length_map,List.length_map];exact hm)) (l:=1) (ds:=aQ ms.reverse) (by rw[e1];rfl)
 have h3:RE z.c aL.names 13 LX (LB S ms p [] [] [] []) pM.i (.ref 1) (LB S ms p [] [] [] [.dls (aQ ms.reverse)]):=by rw[Qg];exact h2
 have q:RS z.c aL.names 13 LX (LB S ms p [] [] [] []) pM.s .next (LB S ms p (b8 p ms).1 (b8 p ms).2 (vN v) [.dls (aQ ms.reverse)]):=kZ (λenv x=>d6 (by kernel_rfl) env x) h3 rfl rfl r
 have es:bV aL.body 4=pM.s:=by kernel_rfl
 rw[es]
 refine⟨v,Ml q (qI (v:=.dat .non) (fz:=[]) (τ:=[]) ?_)⟩
 cases v with
 |none=>kernel_rfl
 |some v=>obtain⟨_,_,_⟩:=v;kernel_rfl
end
end
section
noncomputable def Kh:List Nm:=[[],[],[60,105,32,116,61,34],[60,105,32,116,61,39],[60,105,32,116,61]]
noncomputable def HN:List Nm:=[[],[],[34,62],[39,62],[62]]
noncomputable abbrev headD:D:=.lst (Kh.map D.str)
noncomputable abbrev qL:D:=.lst (HN.map D.str)
noncomputable def eM (p:Nat)(w:Nm):Nm:=Kh.getD p []++w++HN.getD p []
noncomputable def Vu (s:Stmt):Expr:=(nA (sT s).2.1).2.1.headD iS
noncomputable def ComI.l (f:ComI):Expr:=.ListComp f.re [⟨f.rt,f.ri,f.ts,0⟩] f.scope f.pos
noncomputable def Fw:ComI:=Zs iS (Vu (bV aL.body 6)) pU
theorem Vv:Vu (bV aL.body 6)=Fw.l:=by kernel_rfl
noncomputable abbrev Yw:Fx:=⟨2,eC LX.cs (cC Fw.scope.names),false⟩
noncomputable abbrev Qh:aH:=mC aL.names Fw.scope.names
noncomputable def Ki (o:O)(us:List Nm)(eo:List (Nm×V)):List O:=[o,uX us,.fr eo]
noncomputable abbrev SI (n:Int):List (Nm×V):=[(Bg,.dat (.int n))]
section
variable {z:bS}{S:D}{ms:List Int}{p:Nat}{w:Nm}{due:List Nm}{n:Int}{o:O}{v:Option (Int×Nm×List Nm)}
theorem Kj:CallOk z.c 1 780 [] [] (.dat headD) []:=z.use (hs:=[]) (o:=.auto) (g:=true) rfl trivial (by kernel_rfl)
theorem Kk:CallOk z.c 1 787 [] [] (.dat qL) []:=z.use (hs:=[]) (o:=.auto) (g:=true) rfl trivial (by kernel_rfl)
theorem Vx (hp:p<5)(hw:w.length≤10000):RS z.c aL.names 13 LX (LB S ms p w due (vN v) []) (bV aL.body 5) .next (LB S ms p w due (vN v++[(dQ,.dat (.str (eM p w)))]) []):=by
 have i1:∀ hp,a9 z.c 13 hp getItem z.c.VT (.dat headD) (.dat (.int p)) (.dat (.str (Kh.getD p []))) hp:=λ_=>eF (xs:=(Kh.map D.str).map V.dat) rfl (by rw[List.map_map];exact oL (f:=V.dat ∘ D.str) (xs:=Kh) hp) (A4 (A5 (Nat.le_of_lt hp) (by decide)))
 have i2:∀ hp,a9 z.c 13 hp getItem z.c.VT (.dat qL) (.dat (.int p)) (.dat (.str (HN.getD p []))) hp:=λ_=>eF (xs:=(HN.map D.str).map V.dat) rfl (by rw[List.map_map];exact oL (f:=V.dat ∘ D.str) (xs:=HN) hp) (A4 (A5 (Nat.le_of_lt hp) (by decide)))
 have lh:∀ p,p<5→(Kh.getD p []).length≤10∧(HN.getD p []).length≤10:=by decide+kernel
 obtain⟨l1,l2⟩:=lh p hp
 unfold eM
 generalize Kh.getD p []=h at *
 generalize HN.getD p []=t at *
 have g1:Nat.ble ((h++w).length+t.length) lim=true:=li (by rw[A2];lia)
 have g2:Nat.ble (h.length+w.length) lim=true:=li (by lia)
 have ob:(∀ hp,a9 z.c 13 hp getItem z.c.VT (.dat qL) (.dat (.int p)) (.dat (.str t)) hp)∧CallOk z.c 1 787 [] [] (.dat qL) []∧(∀ hp,a9 z.c 13 hp getItem z.c.VT (.dat headD) (.dat (.int p)) (.dat (.str h)) hp)∧CallOk z.c 1 780 [] [] (.dat headD) []∧True:=⟨i2,Kk,i1,Kj,trivial⟩
 cases v with
 |none=>exact z.useS (hs:=[.cal 780 1 [] (.dat headD) [],.sub 1314011030 (.dat (.str h)),.cal 787 1 [] (.dat qL) [],.sub 1314043062 (.dat (.str t))]) (g:=cg [(true,Nat.ble ((h++w).length+t.length) lim),(true,Nat.ble (h.length+w.length) lim)]) (aB g1 (aB g2 aG)) ob (by kernel_rfl)
 |some v=>obtain⟨_,_,_⟩:=v;exact z.useS (hs:=[.cal 780 1 [] (.dat headD) [],.sub 1314011030 (.dat (.str h)),.cal 787 1 [] (.dat qL) [],.sub 1314043062 (.dat (.str t))]) (g:=cg [(true,Nat.ble ((h++w).length+t.length) lim),(true,Nat.ble (h.length+w.length) lim)]) (aB g1 (aB g2 aG)) ob (by kernel_rfl)
theorem Kl {us:List Nm}{eo:List (Nm×V)}(he:eo=[]∨∃ v,eo=[(Bg,v)]):RG z.c Qh 13 Yw (Ki o us eo) Fw.rt (.dat (.int n)) (Ki o us (SI n)):=by
 rcases he with rfl|⟨v,rfl⟩
 ·exact dL (by kernel_rfl) (by kernel_rfl)
 ·exact dL (by kernel_rfl) (by kernel_rfl)
theorem Qi {us:List Nm}:RE z.c Qh 13 Yw (Ki o us (SI n)) Fw.re (.dat (.str (aY n))) (Ki o us (SI n)):=by
 have u:=Fc z n
 generalize aY n=x at *
 exact z.useE (hs:=[.cal 801 3 [] (.dat (.str x)) []]) (g:=true) rfl (an u trivial) (by kernel_rfl)
theorem Vy:Fw.ts=[]:=by kernel_rfl
theorem zN:∀ (t:List Int) (k:Nat) (us:List Nm) (eo:List (Nm×V)),ms.drop k=t→us.length+t.length≤100→(eo=[]∨∃ v,eo=[(Bg,v)])→
  ∃ eo',vR z.c Qh 13 Yw Fw.rt Fw.ts Fw.re 1 (.dat (.lst (aQ ms))) (t.length+1) k (Ki o us eo) (Ki o (us++t.map aY) eo')∧(eo'=[]∨∃ v,eo'=[(Bg,v)])
 | [],k,us,eo,h,_,he=>⟨eo,by
  rw[show us++List.map aY []=us from B1 _]
  exact .stop (all:=dl (aQ ms)) rfl (by unfold dl aQ;rw[List.getElem?_map,List.getElem?_map,List.getElem?_eq_none (List.drop_eq_nil_iff.mp h)];rfl),he⟩
 |n::t,k,us,eo,h,hl,he=>by
  have hk:ms[k]? =some n:=by have:=congrArg (·[0]?) h;simpa using this
  have ht:ms.drop (k+1)=t:=by rw[← List.drop_drop,h];rfl
  have hl:us.length+(t.length+1)≤100:=hl
  obtain⟨eo',q,q1⟩:=zN t (k+1) (us++[aY n]) (SI n) ht (by rw[A2];show us.length+1+_≤_;lia) (.inr ⟨_,rfl⟩)
  refine⟨eo',?_,q1⟩
  rw[List.map_cons,show us++aY n::List.map aY t=(us++[aY n])++List.map aY t from by rw[B2];rfl]
  refine .turn (all:=dl (aQ ms)) (xs:=us.map λx=>.dat (.str x)) rfl (by unfold dl aQ;rw[List.getElem?_map,List.getElem?_map,hk];rfl) (Kl he) (Vy▸TsR.nil) Qi rfl (A4 (by rw[List.length_map];exact A5 (by lia:us.length≤100) (by decide))) ?_
  rw[show(Ki o us (SI n)).set 1 (.lst ((us.map λx=>V.dat (.str x))++[V.dat (.str (aY n))]))=Ki o (us++[aY n]) (SI n)from by unfold Ki uX;rw[List.map_append];rfl]
  exact q
noncomputable def hV (ms:List Int):Nm:=(ms.map aY).flatten
theorem zO:∀ us:List Nm,eE (us.map λx=>V.dat (.str x))=some us
 | []=>rfl
 |x::us=>by
  show(eE (us.map λx=>V.dat (.str x))).map _=_
  rw[zO us]
  rfl
noncomputable abbrev LT (S:D)(ms:List Int)(p:Nat)(w:Nm)(due:List Nm)(v:Option (Int×Nm×List Nm))(tx:Nm)(eo:List (Nm×V))(X:List O):List O:=LB S ms p w due (vN v++([(dQ,.dat (.str tx))]++eo)) X
theorem Km {u:Nm}(h:Uok u):u.length≤2:=by cases h <;>exact A3 rfl
theorem sF:∀ ms:List Int,(hV ms).length≤2*ms.length
 | []=>A7 _
 |n::t=>by
  have h:=sF t
  have u:=Km (fO n)
  show(aY n++hV t).length≤2 * (t.length+1)
  rw[A2]
  lia
theorem Vz (hm:ms.length≤10){tx:Nm}:RS z.c aL.names 13 LX (LT S ms p w due v tx [] []) (bV aL.body 6) .next (LT S ms p w due v tx [(mT,.dat (.str (hV ms)))] []):=by
 have ls:=sF ms
 obtain⟨eo',q,q1⟩:=zN (z:=z) (o:=.fr ([(cF,.dat S),(dW,.dat (.lst (aQ ms))),(b5,.dat (.int p)),(gC,.dat (.str w)),(uA,.dat (.lst (o8 due)))]++(vN v++([(dQ,.dat (.str tx))]++[])))) ms 0 [] [] rfl (by show 0+_≤_;lia) (.inl rfl)
 have h1:RE z.c aL.names 13 LX (LT S ms p w due v tx [] []) Fw.ri (.dat (.lst (aQ ms))) (LT S ms p w due v tx [] []):=by
  cases v with
  |none=>exact z.useE (hs:=[]) (g:=true) rfl trivial (by kernel_rfl)
  |some v=>obtain⟨_,_,_⟩:=v;exact z.useE (hs:=[]) (g:=true) rfl trivial (by kernel_rfl)
 have h2:RE z.c aL.names 13 LX (LT S ms p w due v tx [] []) Fw.l (.ref 1) (LT S ms p w due v tx [] [uX (ms.map aY),.gone]):=yN (hp1:=LT S ms p w due v tx [] []) (v:=.dat (.lst (aQ ms))) (es:=eo') (mP (by kernel_rfl)) h1 rfl rfl q rfl
 rw[← Vv]at h2
 have j:eT z.c 13 (LT S ms p w due v tx [] [uX (ms.map aY),.gone]) (.str [] .join) [.ref 1] (.dat (.str (hV ms))) (LT S ms p w due v tx [] [uX (ms.map aY),.gone]):=mN rfl (zO _) (li (A5 ls (by lia)))
 have h:RS z.c aL.names 13 LX (LT S ms p w due v tx [] []) (bV aL.body 6) .next (LT S ms p w due v tx [(mT,.dat (.str (hV ms)))] [uX (ms.map aY),.gone]):=by
  generalize hV ms=sg at *
  generalize ms.map aY=us at *
  cases v with
  |none=>exact z.useS (hs:=[.exp 1315020051 (.ref 1) (LT S ms p w due none tx [] [uX us,.gone]),.bm (.dat (.str sg)) (LT S ms p w due none tx [] [uX us,.gone])]) (g:=true) rfl (⟨j,h2,trivial⟩:_∧_∧True) (by kernel_rfl)
  |some v=>obtain⟨n0,x0,l0⟩:=v;exact z.useS (hs:=[.exp 1315020051 (.ref 1) (LT S ms p w due (some (n0,x0,l0)) tx [] [uX us,.gone]),.bm (.dat (.str sg)) (LT S ms p w due (some (n0,x0,l0)) tx [] [uX us,.gone])]) (g:=true) rfl (⟨j,h2,trivial⟩:_∧_∧True) (by kernel_rfl)
 refine Ml h (qI (v:=.dat .non) (fz:=[]) (τ:=[]) ?_)
 cases v with
 |none=>kernel_rfl
 |some v=>obtain⟨_,_,_⟩:=v;kernel_rfl
end
end
section
noncomputable abbrev rZ (tx:Nm):Stm:=⟨tx,0,[],0,none,0,0,0⟩
theorem zP:∀ l:Nm,13 ∉ l→md false l=l
 | [],_=>rfl
 |c::r,h=>by
  have q:c≠13:=λe=>h (e ▸ .head _)
  rw[gL,dO q]
  exact congrArg (c::·) (zP r λm=>h (.tail _ m))
section
variable {z:bS}{tx:Nm}{k:Nat}
theorem Kn (h1:CP z (rZ []))(h2:nZ z [] 0 k []):CH z (rZ []) [.dat (.int k)] false (rZ []):=
 z.use (hs:=[j3 (rZ []),yZ [] 0 []]) (o:=.fz [] []) (g:=true) rfl (an h2 (an h1 trivial)) (by kernel_rfl)
theorem Ko {c:Nat}(h1:CP z (rZ tx))(h2:nZ z tx 0 k [c])(h3:CE z ((rZ tx).mt 1 none) [c]):CH z (rZ tx) [.dat (.int k)] true ((rZ tx).rd 1 none [c]):=
 z.use (hs:=[j3 (rZ tx),yZ tx 0 [c],mI ((rZ tx).mt 1 none) [c]]) (o:=.fz [] []) (g:=cg (gM [c])) (l4 (by simp) aG) (an h3 (an h2 (an h1 trivial))) (by kernel_rfl)
theorem wY (hc:∀ c∈tx,mR c)(h13:13 ∉ tx)(hl:tx.length≤9000)(hb:cY tx=0)(hk:1≤k):∃ r1 b,CH z (rZ tx) [.dat (.int k)] b r1∧At' tx true 0 r1 [] tx:=by
 have ok:(rZ tx).Ok:=⟨Nat.zero_le _,by show tx.length≤_;lia,hc,.inl rfl,A7 _,Nat.zero_le _,by show 0+cY tx≤_;lia⟩
 have h1:=EJ z (rZ tx)
 have em:bG tx=tx:=by rw[eK];exact zP tx h13
 by_cases ne:tx=[]
 ·subst ne
  have h2:=rL z (text:=[]) (p:=0) (k:=k) (A7 _) (Nat.zero_le _)
  rw[show(([]:Nm).drop 0).take k=[]from List.take_nil]at h2
  exact⟨rZ [],false,Kn h1 h2,ok,Nat.zero_le _,rfl,.nil,λ_=>⟨[],rfl,rfl⟩,λ_ q=>absurd rfl q,rfl⟩
 ·have R:∃ r1,Rd z [.dat (.int k)] (rZ tx) r1:=by
   by_cases h:2≤k∧2≤tx.length
   ·exact lH (z:=z) (as:=[.dat (.int k)]) (k:=k) ok (.inr rfl) (λ_=>rfl) h.1 (λ_=>h.2) ne
   ·cases tx with
    |nil=>exact absurd rfl ne
    |cons c t=>
     have h2:nZ z (c::t) 0 k ((c::t).take k):=rL z (text:=c::t) (p:=0) (k:=k) (Nat.zero_le _) (by show(c::t).length≤_;lia)
     have e1:(c::t).take k=[c]:=by
      have hh:¬ (2≤k∧2≤t.length+1):=h
      by_cases k1:k=1
      ·subst k1;rfl
      ·have:t=[]:=List.length_eq_zero_iff.mp (by lia)
       subst this
       exact List.take_of_length_le (by show 1≤k;exact hk)
     rw[e1]at h2
     have c13:c≠13:=λe=>h13 (e ▸ .head _)
     exact⟨_,n4 (b':=none) (part:=[c]) (tail:=t) (d:=[c]) ok rfl nofun (by decide:1≤20000) (.inl rfl) (lG (a:=[c]) (b:=t) (dO c13)) (Nat.lt_succ_self _) (hU [c] t).symm (λh3=>Ko h1 h2 h3) λx m=>by rw[List.mem_singleton.mp m];exact hc c (.head _)⟩
  obtain⟨r1,R⟩:=R
  have eq:=R.eq
  rw[show(rZ tx).rest=tx from rfl,em]at eq
  refine⟨r1,true,R.call,R.ok,by lia,?_,.nil,λ_=>⟨[],?_,R.pos⟩,λ_ q=>absurd rfl q,?_⟩
  ·rw[R.off];exact eq.symm
  ·rw[R.off];rfl
  ·rw[R.er];exact(Nat.zero_add _).trans hb
end
end
section
noncomputable abbrev JT (r:Stm)(st:Nat)(J:List O):List O:=[.ns [(cZ,.ref 4),(c4,.dat .non),(bD,.dat (.boo false)),(aW,.dat (.lst [])),(d9,.mth st 2),(c6,.dat (.boo false)),(a7,.dat .non)],.ins 762 1,
  strE r 4 6 7,.ins 166 3,.ns [(dQ,.dat (.str r.text)),(b5,.dat (.int r.place))],.ins 73 5,.dls (Bd r.er)]++J
noncomputable def Qj:Expr:=(Nb (Nb (Nb ((nA (Nc (bV aL.body 9)).1).2.1.headD iS)).2).1).1
noncomputable def WA:Expr:=(nA Qj).1
noncomputable def WB:Expr:=(nA Qj).2.1.headD iS
theorem uF:∀ ns:List Int,jA (dl (aQ ns))=some ns
 | []=>rfl
 |n::r=>by
  have h:=uF r
  show((jA (dl (aQ r))).map (n::·))=_
  rw[h];rfl
theorem zQ {α β:Type}(f:α→β)(xs:List α)(a b:Option Int):dX (xs.map f) a b=(dX xs a b).map f:=by
 unfold dX
 rw[List.length_map,List.map_take,List.map_drop]
noncomputable def qM (ms:List Int):Int:=rB (dX ms (some (-1)) none) 0
section
variable {z:bS}{S:D}{ms:List Int}{p:Nat}{w:Nm}{due:List Nm}{v:Option (Int×Nm×List Nm)}{tx sg:Nm}{r:Stm}{st:Nat}
noncomputable abbrev L7 (S:D)(ms:List Int)(p:Nat)(w:Nm)(due:List Nm)(v:Option (Int×Nm×List Nm))(tx sg:Nm)(eo:List (Nm×V))(X:List O):List O:=LT S ms p w due v tx ([(mT,.dat (.str sg))]++eo) X
theorem oU {P:Option (Int×Nm×List Nm)→Prop}(h0:P none)(h1:∀ n x l,P (some (n,x,l))):∀ v,P v
 |none=>h0
 |some (n,x,l)=>h1 n x l
theorem WC:RS z.c aL.names 13 LX (L7 S ms p w due v tx sg [] []) (bV aL.body 7) .next (L7 S ms p w due v tx sg [(bP,.ref 2)] (JT (rZ tx) 304 [])):=
 z.useS (hs:=[.cal 261 8 [1,2] (.dat .non) (Zo tx)]) (g:=true) (ob:=_∧True) rfl ⟨VN z (t:=tx),trivial⟩ (by revert v;apply oU <;>intros <;>kernel_rfl)
theorem Yx (hp:p<5):RS z.c aL.names 13 LX (L7 S ms p w due v tx sg [(bP,.ref 2)] (JT (rZ tx) 304 [])) (bV aL.body 8) .next (L7 S ms p w due v tx sg [(bP,.ref 2)] (JT (rZ tx) (bif Nat.beq p 1 then 318 else 304) [])):=by
 rcases(by lia:p=0∨p=1∨p=2∨p=3∨p=4)with rfl|rfl|rfl|rfl|rfl
 ·exact z.useS (hs:=[]) (g:=true) rfl trivial (by revert v;apply oU <;>intros <;>kernel_rfl)
 ·exact z.useS (hs:=[]) (g:=true) rfl trivial (by revert v;apply oU <;>intros <;>kernel_rfl)
 ·exact z.useS (hs:=[]) (g:=true) rfl trivial (by revert v;apply oU <;>intros <;>kernel_rfl)
 ·exact z.useS (hs:=[]) (g:=true) rfl trivial (by revert v;apply oU <;>intros <;>kernel_rfl)
 ·exact z.useS (hs:=[]) (g:=true) rfl trivial (by revert v;apply oU <;>intros <;>kernel_rfl)
noncomputable abbrev BS (ms:List Int):O:=.lst (dl (aQ (dX ms (some (-1)) none)))
theorem WD (hm:ms.length≤10):RE z.c aL.names 13 LX (L7 S ms p w due v tx sg [(bP,.ref 2)] (JT r st [])) (Expr.Call WA [WB] [] (nA Qj).2.2) (.dat (.int (qM ms))) (L7 S ms p w due v tx sg [(bP,.ref 2)] (JT r st [BS ms])):=by
 have h1:RE z.c aL.names 13 LX (L7 S ms p w due v tx sg [(bP,.ref 2)] (JT r st [])) WA (.blt "sum") (L7 S ms p w due v tx sg [(bP,.ref 2)] (JT r st [])):=z.useE (hs:=[]) (g:=true) rfl trivial (by revert v;apply oU <;>intros <;>kernel_rfl)
 have e:dX (dl (aQ ms)) (some (-1)) none=dl (aQ (dX ms (some (-1)) none)):=by
  show dX ((ms.map D.int).map V.dat) _ _=((dX ms _ _).map D.int).map V.dat
  rw[zQ,zQ]
 have hb:Nat.ble (dl (aQ ms)).length lim=true:=li (by unfold dl aQ;rw[List.length_map,List.length_map];lia)
 have h2:RE z.c aL.names 13 LX (L7 S ms p w due v tx sg [(bP,.ref 2)] (JT r st [])) WB (.ref 8) (L7 S ms p w due v tx sg [(bP,.ref 2)] (JT r st [.lst (dX (dl (aQ ms)) (some (-1)) none)])):=z.useE (hs:=[]) (g:=cg [(true,Nat.ble (dl (aQ ms)).length lim)]) (aB hb aG) trivial (by revert v;apply oU <;>intros <;>kernel_rfl)
 rw[e]at h2
 exact yB (by kernel_rfl) (DQ (by kernel_rfl)) h1 (jS h2 mO) (vZ (xs:=dl (aQ (dX ms (some (-1)) none))) rfl (uF _))
noncomputable def BU (ms:List Int):Nat:=1+(Int.fmod (Int.fdiv (qM ms) 216) 40).toNat
theorem Qk {r1:Stm}{b:Bool}(hm:ms.length≤10)(h:CH z (rZ tx) [.dat (.int (BU ms))] b r1):RS z.c aL.names 13 LX (L7 S ms p w due v tx sg [(bP,.ref 2)] (JT (rZ tx) st [])) (bV aL.body 9) .next (L7 S ms p w due v tx sg [(bP,.ref 2)] (JT r1 st [BS ms])):=by
 have s:=WD (z:=z) (S:=S) (ms:=ms) (p:=p) (w:=w) (due:=due) (v:=v) (tx:=tx) (sg:=sg) (r:=rZ tx) (st:=st) hm
 obtain⟨k,hk,_⟩:=bM (Int.fdiv (qM ms) 216) 40 (by decide)
 have hk:Int.fmod (Int.fdiv (qM ms) 216) 40=k:=hk
 have o1:V.dat (.int (1+Int.fmod (Int.fdiv (qM ms) 216) 40))=V.dat (.int (BU ms)):=by unfold BU;rw[hk];rfl
 generalize qM ms=T at *
 generalize BU ms=K at *
 exact z.useS (hs:=[.exp 1319032049 (.dat (.int T)) (L7 S ms p w due v tx sg [(bP,.ref 2)] (JT (rZ tx) st [BS ms])),.val 1319028061 (.dat (.int K)),.cal 141 3 [4,3,6,5,7] (.dat (.boo b)) (SL r1)]) (g:=true) rfl (an h (an o1 (an s trivial))) (by revert v;apply oU <;>intros <;>kernel_rfl)
noncomputable abbrev Zy:List (Nm×V):=[(bP,.ref 2),(Mn,.dat (.str [])),(uB,.ref 9),(FY,.ref 10)]
theorem WE:RX z.c aL.names 13 LX (L7 S ms p w due v tx sg [(bP,.ref 2)] (JT r st [BS ms])) [bV aL.body 10,bV aL.body 11,bV aL.body 12] .next (L7 S ms p w due v tx sg Zy (JT r st [BS ms,.lst [],.lst []])):=
 z.useX (hs:=[]) (g:=true) rfl trivial (by revert v;apply oU <;>intros <;>kernel_rfl)
end
end
section
noncomputable def LG (fr:List (Nm×V))(l1 l2:O)(r:Stm)(st:Nat):List O:=
 [.fr fr,l1,l2,
  .ns [(cZ,.ref 6),(c4,.dat .non),(bD,.dat (.boo false)),(aW,.dat (.lst [])),(d9,.mth st 4),(c6,.dat (.boo false)),(a7,.dat .non)],.ins 762 3,
  strE r 6 8 9,.ins 166 5,.ns [(dQ,.dat (.str r.text)),(b5,.dat (.int r.place))],.ins 73 7,.dls (Bd r.er)]
noncomputable def XU:Option (Int×Nm×List Nm)→Option (D×D×D)
 |none=>none
 |some (n,x,l)=>some (.int n,.str x,.lst (l.map D.str))
noncomputable def Ql (S:D)(ms:List Int)(p:Nat)(w:Nm)(due:List Nm)(v:Option (Int×Nm×List Nm))(tx sg:Nm):Fr:=⟨S,.lst (aQ ms),.int p,.str w,.lst (o8 due),XU v,tx,sg⟩
noncomputable def a0:Acc:=⟨[],[],[],none⟩
noncomputable def jI (p:Nat):Nat:=bif Nat.beq p 1 then 318 else 304
section
variable {z:bS}{S:D}{ms:List Int}{p:Nat}{w:Nm}{due:List Nm}{v:Option (Int×Nm×List Nm)}{tx sg:Nm}{r:Stm}{st:Nat}{f:Fr}
theorem Qm:Gc 1 (L7 S ms p w due v tx sg Zy (JT r st [BS ms,.lst [],.lst []])) (LG ((Ql S ms p w due v tx sg).b [] []) (.lst []) (.lst []) r st):=
 qI (fz:=[]) (τ:=[9,10,1,2,3,4,5,6,7]) (v:=.dat .non) (by revert v;apply oU <;>intros <;>kernel_rfl)
theorem Yy:Gc 11 ((LG (f.b [] []) (.dls []) (.dls []) r st).set 3 (.ns [(cZ,.ref 6),(c4,.dat .non),(bD,.dat (.boo false)),(aW,.dat (.lst [])),(d9,.mth st 4),(c6,.dat (.boo false)),(a7,.dat .non),(cJ,.ref 11)])++[.fr [(d8,.ref 4)],.lst []]) (AL f a0 r st (pL (.dead false .non)) [] (o7 (.dead false .non))):=
 qI (fz:=[]) (τ:=[11,12,13,14]) (v:=.dat .non) (by obtain⟨_,_,_,_,_,j,_,_⟩:=f;cases j <;>kernel_rfl)
theorem WF (D:GenD z.K 268 gN gI.b)(R:RplOk z.K){b:Bool}{k:Nat}{q:List Tok}(e:run k st (.dead b .non) tx=some q)(at_:At' tx true 0 r [] tx)(L:Lim a0 q):
  ∃ hpE,EndR f tx (a0.toks q) hpE∧RS z.c aL.names 13 LX (LG (f.b [] []) (.dls []) (.dls []) r st) wS.s .next hpE:=by
 obtain⟨hpE,m,en,kk,p⟩:=VY (f:=f) R k e r a0 at_ L
 refine⟨hpE,en,?_⟩
 have h1:RE z.c aL.names 13 LX (LG (f.b [] []) (.dls []) (.dls []) r st) wS.i (.ref 4) (LG (f.b [] []) (.dls []) (.dls []) r st):=z.useE (hs:=[]) (g:=true) rfl trivial (by obtain⟨_,_,_,_,_,j,_,_⟩:=f;cases j <;>kernel_rfl)
 have hs:RS z.c gN 8 GF (LG (f.b [] []) (.dls []) (.dls []) r st++[.fr [(d8,.ref 4)]]) gI.s1 .next ((LG (f.b [] []) (.dls []) (.dls []) r st).set 3 (.ns [(cZ,.ref 6),(c4,.dat .non),(bD,.dat (.boo false)),(aW,.dat (.lst [])),(d9,.mth st 4),(c6,.dat (.boo false)),(a7,.dat .non),(cJ,.ref 11)])++[.fr [(d8,.ref 4)],.lst []]):=z.useS (hs:=[]) (g:=true) rfl trivial (by kernel_rfl)
 exact OS (c:=z.c) (X:=gI) (cl:=gS) D (λenv x=>d6 (by kernel_rfl) env x) (by decide) h1 (I:=⟨762,_,_⟩) rfl rfl rfl hs (p _ Yy)
theorem WG {ns:List Int}(hn:ns.length≤1000){r1:Stm}{b:Bool}(hm:ms=ns.take 10)(hp:p=bQ ms)(p5:p<5)(hw:(b8 p ms).1.length≤10000)(h:CH z (rZ (eM p (b8 p ms).1)) [.dat (.int (BU ms))] b r1):
  ∃ v,RX z.c aL.names 13 LX [.fr [(cF,.dat (.lst (aQ ns)))]] (aL.body.take 13) .next (LG ((Ql (.lst (aQ ns)) ms p (b8 p ms).1 (b8 p ms).2 v (eM p (b8 p ms).1) (hV ms)).b [] []) (.dls []) (.dls []) r1 (jI p)):=by
 have lm:ms.length≤10:=hm▸List.length_take_le ..
 have h1:=Vq (z:=z) hn
 rw[← hm,← hp]at h1
 obtain⟨v,h2⟩:=Vt (z:=z) (S:=.lst (aQ ns)) p5 lm
 refine⟨v,?_⟩
 have eb:aL.body.take 13=aL.body.take 4++([bV aL.body 4,bV aL.body 5,bV aL.body 6,bV aL.body 7,bV aL.body 8,bV aL.body 9]++[bV aL.body 10,bV aL.body 11,bV aL.body 12]):=by kernel_rfl
 rw[eb]
 have q:=rY h1 (rY (cP h2 (cP (Vx p5 hw) (cP (Vz lm) (cP WC (cP (Yx p5) (cP (Qk lm h) Co)))))) WE)
 exact eG (eG (Mk q Qm) (l:=1) (ds:=[]) rfl) (l:=2) (ds:=[]) rfl
end
end
section
section
variable {c:Cx}{n:Nat}{hp:List O}{a b:V}{ds:List D}
noncomputable def BV (P:Params)(ds:List D):Prop:=R2 (DOk P 7) ds ds
theorem Yz (ha:items a hp=some (dl ds))(hb:items b hp=some (dl ds))(h:BV c.P ds):a9 c n hp (compareOp .Eq) eP a b true hp:=λA W s u v z hu hv=>by
 match u,aP z.rel hu ha,v,aP z.rel hv hb with
 |_,.mk a us k I d,_,.mk a' us' k' I' d'=>
  have q:=g8 (A:=A) h z.rel.fz (DRs.r2.mpr (R2.unmap (f:=V.dat) d)) (DRs.r2.mpr (R2.unmap (f:=V.dat) d')) z.room.eight
  have t:=SeqAt.RcAt.lists (e:=λ_=>true) ⟨_,I,rfl,_,rfl⟩ ⟨_,I',rfl,_,rfl⟩ (by rw[List.size_toArray,List.size_toArray,q.1]) (Nat.lt_of_le_of_lt (Nat.le_add_right _ _) z.room.eight) q.2
  rw[m8]at t
  exact t _ _ _ _ (bo z _ rfl)
theorem Qn (ha:items a hp=some (dl ds))(hb:items b hp=some (dl ds))(h:BV c.P ds):a9 c n hp (compareOp .NotEq) eP a b false hp:=λA W s u v z hu hv=>by
 match u,aP z.rel hu ha,v,aP z.rel hv hb with
 |_,.mk a us k I d,_,.mk a' us' k' I' d'=>
  have q:=g8 (A:=A) h z.rel.fz (DRs.r2.mpr (R2.unmap (f:=V.dat) d)) (DRs.r2.mpr (R2.unmap (f:=V.dat) d')) z.room.eight
  have t:=SeqAt.RcNeAt.lists (e:=λ_=>true) ⟨_,I,rfl,_,rfl⟩ ⟨_,I',rfl,_,rfl⟩ (by rw[List.size_toArray,List.size_toArray,q.1]) (Nat.lt_of_le_of_lt (Nat.le_add_right _ _) z.room.eight) q.2
  rw[m8]at t
  exact t _ _ _ _ (bo z _ rfl)
end
theorem zR {p q:Prop}{x:Mb q}{f:q→Mb p}(h:x.yes=true)(k:∀ a,(f a).yes=true):(x.tkn f).yes=true:=match x,h with
 |.ok a,_=>k a
theorem zS {p:Prop}{b:Bool}{f:b=true→Mb p}(h:b=true)(k:∀ e,(f e).yes=true):(Mb.gvn b f).yes=true:=by
 subst h;exact k rfl
theorem uG {R:D→D→Prop}{f:∀ a b,Mb (R a b)}:∀ xs:List D,(∀ x∈xs,(f x x).yes=true)→(Ha f xs xs).yes=true
 | [],_=>rfl
 |x::xs,h=>zR (h x (.head _)) λ_=>zR (uG xs λy m=>h y (.tail _ m)) λ_=>rfl
theorem Kq {P:Params}(n:Nat)(x:Nm):(AV P n (.str x) (.str x)).yes=true:=by cases n <;>exact zS (eW x) λ_=>rfl
theorem zT {P:Params}(n:Nat)(x:Int):(AV P n (.int x) (.int x)).yes=true:=by cases n <;>exact zS (by show gU x x=true;rw[← bL];exact beq_self_eq_true x) λ_=>rfl
theorem WH {α:Type}{p:α→Prop}{a:α}{r:List α}(h:p a)(k:∀ x∈r,p x):∀ x∈a::r,p x:=λ_ m=>match m with
 |.head _=>h
 |.tail _ m=>k _ m
theorem zU {P:Params}{ds:List D}(h:∀ x∈ds,(AV P 7 x x).yes=true):BV P ds:=Mb.out (uG ds h)
theorem BW {P:Params}(ws:List Nm):BV P (ws.map Tk.D.str):=zU λx m=>by
 obtain⟨i,_,rfl⟩:=List.mem_map.mp m
 exact Kq _ _
end
section
structure Dct1 (s:Shared) (a:Addr) (x:Str) (e:DictEntry):Prop where
 ob:∃ n,s.heap.get? a=some ⟨.type "dict",none,.dict [e].toArray n,#[]⟩
 key:∃ t,e.key=.str x t
 sys:(a==sysModules)=false
theorem Dct1.typeIs {s:Shared}{a:Addr}{x:Str}{e:DictEntry}(h:Dct1 s a x e):s.TypeIs (.ref a) "dict" :=(by rcases h.ob with⟨n,g⟩;exact⟨_,g,rfl⟩)
theorem Qo {prog:Program}{w:World}{A:Around}{E:Value→Shared→Prop}{s:Shared}{nm:String}{a b:Addr}{x:Str}{e1 e2:DictEntry}{Q:Bool→Shared→Prop}(ha:Dct1 s a x e1)(hb:Dct1 s b x e2)(he:SeqAt.EqAt A s e1.val e2.val true)(h:Q true s):
  wpAny (model prog w) A (Builtin.Dict.samePairs nm a b) Q E s:=by
 obtain⟨n,hoa⟩:=ha.ob
 obtain⟨m,hob⟩:=hb.ob
 obtain⟨t1,k1⟩:=ha.key
 obtain⟨t2,k2⟩:=hb.key
 unfold Builtin.Dict.samePairs Builtin.Dict.showsAll
 rw[if_neg (show ¬ (a==sysModules)=true by rw[ha.sys];exact A8),if_neg (show ¬ (b==sysModules)=true by rw[hb.sys];exact A8)]
 refine wpAny_bind (wpAny_pure (wpAny_bind (wpAny_pure ?_)))
 refine wpAny_bind (wpAny_dictEntries hoa rfl ?_)
 dsimp only
 refine wpAny_bind (wpAny_dictEntries hob rfl ?_)
 rw[if_neg (by simp)]
 refine wpAny_bind (wpAny_dictEpoch hoa rfl ?_)
 refine wpAny_bind ?_
 rw[Std.Legacy.Range.forIn_eq_forIn_range']
 simp only[Std.Legacy.Range.size,Nat.sub_zero,Nat.add_sub_cancel,Nat.div_one]
 refine wpAny_forIn_list _ (λrest q s'=>s'=s∧q=(none,())∧(rest=[0]∨rest=[])) _ ?_ ?_ _ _ ⟨rfl,rfl,.inl rfl⟩
 ·rintro i rest q s' ⟨rfl,rfl,hr⟩
  obtain⟨rfl,rfl⟩:i=0∧rest=[]:=by
   rcases hr with hr|hr
   ·injection hr with h1 h2;exact⟨h1,h2⟩
   ·exact nomatch hr
  refine wpAny_bind (wpAny_dictEntries hoa rfl ?_)
  rw[show([e1].toArray)[0]? =some e1 from rfl]
  show wpAny _ _ (holding [e1.key,e1.val] _ >>= _) _ _ _
  rw[k1]
  refine wpAny_bind (wpAny_holding (wpAny_bind (KTD.kt_dictFind_strs hob rfl (by rw[List.all_toArray];show(isExactStrKey e2.key&&true)=true;rw[k2];rfl) ?_)))
  have hf:([e2].toArray.findIdx? λe=>e.key.isStr x)=some 0:=by rw[List.findIdx?_toArray,List.findIdx?_cons,k2];exact if_pos (show(x==x)=true from beq_self_eq_true x)
  rw[hf]
  refine wpAny_bind (wpAny_dictEntries hob rfl ?_)
  refine wpAny_holding (he prog w _ _ ?_)
  show wpAny _ _ (if(!true)=true then _ else _) _ _ _
  rw[if_neg (by decide)]
  refine wpAny_bind (wpAny_dictEpoch hoa rfl ?_)
  rw[if_neg (by simp)]
  exact wpAny_pure ⟨rfl,rfl,.inr rfl⟩
 ·rintro q s' ⟨rfl,rfl,_⟩
  exact wpAny_pure h
theorem Kr {A:Around}{s:Shared}{a b:Addr}{x:Str}{e1 e2:DictEntry}(ha:Dct1 s a x e1)(hb:Dct1 s b x e2)(he:SeqAt.EqAt A.in1 s e1.val e2.val true)(hu:A.units<cLine):SeqAt.RcAt A s (.ref a) (.ref b) true:=λprog w E Q h=>by
 refine wpAny_richCompare_same_room (op:=.Eq) ha.typeIs hb.typeIs PySem.F.slot_dict_eq (wpAny_call_entry PySem.F.slot_dict_eq ha.typeIs PySem.F.entry_dict_eq ?_ (PySem.F.args_dict_eq_2 _ _)) hu
 show wpAny _ _ (Builtin.Dict.dictSlotArgs "__eq__" ⟨[.ref a,.ref b],[]⟩ >>= _) _ _ s
 refine wpAny_bind ?_
 unfold Builtin.Dict.dictSlotArgs
 refine wpAny_bind (wpAny_notOrdered_dict ha.typeIs ?_)
 show wpAny _ _ (pure (Value.ref a,Value.ref b)) _ _ s
 refine wpAny_pure ?_
 refine wpAny_bind (wpAny_isInstance (T:="dict") hb.typeIs PySem.F.sub_dict_dict ?_)
 refine wpAny_bind (wpAny_pure (wpAny_bind (wpAny_pure ?_)))
 refine wpAny_bind (Qo ha hb he ?_)
 refine wpAny_pure ⟨_,rfl,?_,?_⟩
 ·exact λx=>nomatch x
 ·simpa using h
end
section
open SeqAt in
theorem Fy {A:Around}{s:Shared}{x:Nm}{u w:Value}(h:IsS x u)(k:IsS x w):EqAt A s u w true:=match u,h,w,k with
 |_,.mk t,_,.mk t'=>by
  have q:=EqAt.str_str (A:=A) (s:=s) (st x) t (st x) t'
  rw[beq_self_eq_true]at q
  exact q
section
variable {c:Cx}{n:Nat}{hp:List O}{a b:V}{j k:Nat}{v:Nm}
theorem Ks (ha:items a hp=some [.dat (KF v)])(hb:items b hp=some [.ref j])(hj:dK (.ref j) hp=some [.dat (.str tQ),.ref k,.dat (.boo false)])(hk:hp[k]?.bind O.nsE=some [(MX,.dat (.str v))]):a9 c n hp (compareOp .Eq) eP a b true hp:=λA W s u w z hu hw=>by
 match u,aP z.rel hu ha,w,aP z.rel hw hb with
 |_,.mk la us _ I d,_,.mk lb ws _ I' d'=>
  obtain⟨u1,us',rfl,h1,r1⟩:=Two.out d
  obtain⟨w1,ws',rfl,h1',r1'⟩:=Two.out d'
  obtain rfl:us'=[]:=r1
  obtain rfl:ws'=[]:=r1'
  have hu8:=z.room.eight
  match u1,(h1:IsSeq W.fz "tuple" (DRs c.P W.fz [.str tQ,.dct [(MX,.str v)],.boo false]) u1),w1,cM z.rel h1' hj with
  |_,.mk ta xs m f e,_,.mk tb ys m' g e'=>
   obtain⟨x1,xs',rfl,p1,e⟩:=Two.out e
   obtain⟨x2,xs',rfl,p2,e⟩:=Two.out e
   obtain⟨x3,xs',rfl,p3,e⟩:=Two.out e
   obtain rfl:xs'=[]:=e
   obtain⟨y1,ys',rfl,q1,e'⟩:=Two.out e'
   obtain⟨y2,ys',rfl,q2,e'⟩:=Two.out e'
   obtain⟨y3,ys',rfl,q3,e'⟩:=Two.out e'
   obtain rfl:ys'=[]:=e'
   have ed:SeqAt.EqAt A.in1.in1 s x2 y2 true:=by
    match x2,(p2:IsDct W.fz (DRe c.P W.fz [(MX,.str v)]) x2),z.rel.ns (fZ hk)with
    |_,.mk da en nn df de,.mk en' nn' dg de' nd=>
     have sa:=nF z.le0 df de (by kernel_rfl)
     have sb:=yP z (fZ hk)
     obtain⟨e1,r,rfl,E1,rr⟩:=Two.out de
     obtain rfl:r=[]:=rr
     obtain⟨e2,r,rfl,E2,rr⟩:=Two.out de'
     obtain rfl:r=[]:=rr
     rw[show y2=.ref (W.ρ k)from q2.2]
     match E1,E2 with
     |.mk _ t1 _ k1 v1,.mk _ t2 _ k2 v2=>
      exact(q4 (Kr ⟨⟨_,z.rel.fz _ _ df⟩,⟨_,k1⟩,sa⟩ ⟨⟨_,dg⟩,⟨_,k2⟩,sb⟩ (Fy v1 v2) (Nat.lt_of_le_of_lt (by show A.units+1+1≤A.units+8;lia) hu8))).1
   have t2:SeqAt.EqAt A.in1 s (.ref ta) (.ref tb) true:=(q4 (by
    have t:=SeqAt.RcAt.tuples (A:=A.in1) (e:=λ_=>true) ⟨_,z.rel.fz _ _ f,rfl,_,rfl⟩ ⟨_,g,rfl,_,rfl⟩ (Nat.lt_of_le_of_lt (by show A.units+1≤A.units+8;lia) hu8) (λi h1 h2=>by
     match i,h1,h2 with
     |0,_,_=>exact Fy p1 q1
     |1,_,_=>exact ed
     |2,_,_=>
      show SeqAt.EqAt _ _ x3 y3 true
      rw[show x3=Value.bool false from p3,show y3=Value.bool false from q3]
      exact SeqAt.EqAt.same _
     |i+3,h,_=>exact absurd h (by show ¬ (i+3<3);lia))
    rw[m8]at t
    exact t)).1
   have t:=SeqAt.RcAt.lists (A:=A) (e:=λ_=>true) ⟨_,I,rfl,_,rfl⟩ ⟨_,I',rfl,_,rfl⟩ rfl (Nat.lt_of_le_of_lt (Nat.le_add_right _ _) hu8) (λi h1 h2=>by
    match i,h1,h2 with
    |0,_,_=>exact t2
    |i+1,h,_=>exact absurd h (by show ¬ (i+1<1);lia))
   rw[m8]at t
   exact t _ _ _ _ (bo z _ rfl)
end
end
section
section
variable {c:Cx}{n:Nat}{hp:List O}{a b:V}{ds:List D}
theorem Qp (ha:dK a hp=some (dl ds))(hb:dK b hp=some (dl ds))(h:BV c.P ds):a9 c n hp (compareOp .NotEq) eP a b false hp:=λA W s u v z hu hv=>by
 match u,cM z.rel hu ha,v,cM z.rel hv hb with
 |_,.mk a us k I d,_,.mk a' us' k' I' d'=>
  have q:=g8 (A:=A) h z.rel.fz (DRs.r2.mpr (R2.unmap (f:=V.dat) d)) (DRs.r2.mpr (R2.unmap (f:=V.dat) d')) z.room.eight
  have t:=SeqAt.RcNeAt.tuples (e:=λ_=>true) ⟨_,I,rfl,_,rfl⟩ ⟨_,I',rfl,_,rfl⟩ (Nat.lt_of_le_of_lt (Nat.le_add_right _ _) z.room.eight) q.2
  rw[m8,List.size_toArray,List.size_toArray,q.1,beq_self_eq_true]at t
  exact t _ _ _ _ (bo z _ rfl)
theorem Fz {P:Params}(i j:Int):BV P [.int i,.int j]:=zU (WH (zT _ _) (WH (zT _ _) nofun))
end
noncomputable def WI (f:Fr)(a:Acc)(eo:List (Nm×V))(r:Stm)(st:Nat)(c:V)(o:Q3)(X:List O):List O:=kL (f.b a.got (KD a.ro++eo)) (o8 a.fs) (HK a.ts) r st c [] o++X
noncomputable abbrev Zz:List (Nm×V):=[(Eg,.ref 15)]
noncomputable abbrev rwO (tx:Nm):O:=.lst ((bO tx [10]).map λw=>.dat (.str w))
section
variable {z:bS}{S nD wD:D}{p:Nat}{tx sg got last:Nm}{due ts init:List Nm}{j:Option (D×D×D)}{ro:Option (D×D)}{r:Stm}{st:Nat}{c:V}{o:Q3}
noncomputable abbrev frE (S nD:D)(p:Nat)(wD:D)(due:List Nm)(j:Option (D×D×D))(tx sg:Nm):Fr:=⟨S,nD,.int p,wD,.lst (o8 due),j,tx,sg⟩
theorem GA (h:bO tx [10]=init++[last]):((bO tx [10]).map λw=>V.dat (.str w)).length=init.length+1:=by rw[List.length_map,h,A2];rfl
theorem Qq (hl:tx.length≤9000)(h:bO tx [10]=init++[last])(hi:init.length≤9000):RS z.c aL.names 13 LX (WI (frE S nD p wD due j tx sg) ⟨got,due,ts,ro⟩ [] r st c o []) (bV aL.body 14) .next (WI (frE S nD p wD due j tx sg) ⟨got,due,ts,ro⟩ Zz r st c o [rwO tx]):=by
 have g:(Nat.ble tx.length lim&&(!(([10]:Nm).length==0)&&Nat.ble (bO tx [10]).length lim))=true:=by
  rw[show Nat.ble tx.length lim=true from li (by lia),show Nat.ble (bO tx [10]).length lim=true from li (by rw[h,A2];show _+1≤_;lia)]
  rfl
 exact z.useS (hs:=[]) (g:=cg [(true,Nat.ble tx.length lim&&(!(([10]:Nm).length==0)&&Nat.ble (bO tx [10]).length lim))]) (aB g aG) trivial (by cases j <;>cases ro <;>kernel_rfl)
end
end
section
section
variable {z:bS}{S nD wD:D}{p:Nat}{tx sg got last:Nm}{due ts init:List Nm}{j:Option (D×D×D)}{ro:Option (D×D)}{r:Stm}{st:Nat}{c:V}{o:Q3}
noncomputable abbrev EH (S nD:D)(p:Nat)(wD:D)(due:List Nm)(j:Option (D×D×D))(tx sg got:Nm)(ts:List Nm)(ro:Option (D×D))(r:Stm)(st:Nat)(c:V)(o:Q3)(X:List O):List O:=WI (frE S nD p wD due j tx sg) ⟨got,due,ts,ro⟩ Zz r st c o ([rwO tx]++X)
noncomputable abbrev ZA (tx last:Nm):D:=.tup [.int ((bO tx [10]).map λw=>V.dat (.str w)).length,.int last.length]
theorem ZB (h:bO tx [10]=init++[last])(hi:init.length≤9000)(hl:last.length≤9000)(hr:r.off≤r.chunk.length)(h1:r.pos.1=init.length)(h2:r.pos.2=last.length):RS z.c aL.names 13 LX (EH S nD p wD due j tx sg got ts ro r st c o []) (bV aL.body 15) .next (EH S nD p wD due j tx sg got ts ro r st c o []):=by
 have rl:=GA h
 have g1:Nat.ble ((bO tx [10]).map λw=>V.dat (.str w)).length lim=true:=li (by rw[rl];lia)
 have g2:Nat.ble last.length lim=true:=li (by lia)
 have ps:=v8 z hr
 have e1:(r.pos.1+1:Int)=(((bO tx [10]).map λw=>V.dat (.str w)).length:Nat):=by rw[h1,rl];rfl
 have o1:a9 z.c 13 (EH S nD p wD due j tx sg got ts ro r st c o []) (compareOp (bI .ne)) eP (.ref 1) (.dat (.lst (o8 due))) false (EH S nD p wD due j tx sg got ts ro r st c o []):=Qn (ds:=o8 due) rfl rfl (BW due)
 have o2:a9 z.c 13 (EH S nD p wD due j tx sg got ts ro r st c o []) getItem z.c.VT (.ref 15) (.dat (.int (-1))) (.dat (.str last)) (EH S nD p wD due j tx sg got ts ro r st c o []):=eF (xs:=(bO tx [10]).map λw=>V.dat (.str w)) rfl (by rw[h,List.map_append];exact j4 _ _) rfl
 have o3:a9 z.c 13 (EH S nD p wD due j tx sg got ts ro r st c o []) (compareOp (bI .ne)) eP (.dat (.tup [.int (r.pos.1+1),.int r.pos.2])) (.dat (ZA tx last)) false (EH S nD p wD due j tx sg got ts ro r st c o []):=by
  rw[e1,h2]
  exact Qp (ds:=[.int ((bO tx [10]).map λw=>V.dat (.str w)).length,.int last.length]) rfl rfl (Fz _ _)
 exact z.useS (hs:=[.itm 1334007020 (.dat (.boo false)),.cal 126 2 [6,5,8,7,9] (.dat (.tup [.int (r.pos.1+1),.int r.pos.2])) (SL r),.itm 1334068076 (.dat (.str last)),.itm 1334024078 (.dat (.boo false))])
  (g:=cg [(true,Nat.ble last.length lim),(true,Nat.ble ((bO tx [10]).map λw=>V.dat (.str w)).length lim)]) (aB g2 (aB g1 aG)) (an o3 (an o2 (an ps (an o1 trivial)))) (by cases j <;>cases ro <;>kernel_rfl)
theorem WJ (p2:p<2)(hg:got=sg):∃ hp',RX z.c aL.names 13 LX (EH S nD p wD due j tx sg got [] ro r st c o []) [bV aL.body 16,bV aL.body 17] (.ret (.dat (.boo true))) hp':=by
 subst hg
 have o1:a9 z.c 13 (EH S nD p wD due j tx got got [] ro r st c o [.lst []]) (compareOp (bI .eq)) eP (.ref 2) (.ref 16) true (EH S nD p wD due j tx got got [] ro r st c o [.lst []]):=r9 (xs:=[]) rfl rfl
 have h:RX z.c aL.names 13 LX (EH S nD p wD due j tx got got [] ro r st c o []) [bV aL.body 16,bV aL.body 17] (.ret (.dat (.boo true))) (EH S nD p wD due j tx got got [] ro r st c o [.lst []]):=
  z.useX (hs:=[.tst 1336007016 true,.tst 1337015027 true,.itm 1337032042 (.dat (.boo true))]) (g:=cg [(true,nb got got),(true,aX p 2)]) (aB (eW _) (aB (gB (b:=2) p2) aG)) (an o1 trivial) (by cases j <;>cases ro <;>kernel_rfl)
 exact⟨_,h⟩
noncomputable abbrev ZC (sg:Nm):List O:=[.ns [(MX,.dat (.str sg))],.tup [.dat (.str tQ),.ref 16,.dat (.boo false)],.lst [.ref 17]]
theorem WK (p2:2≤p):∃ hp',RX z.c aL.names 13 LX (EH S nD p wD due j tx sg [] [sg] ro r st c o []) [bV aL.body 16,bV aL.body 17] (.ret (.dat (.boo true))) hp':=by
 have o1:a9 z.c 13 (EH S nD p wD due j tx sg [] [sg] ro r st c o (ZC sg)) (compareOp (bI .eq)) eP (.ref 2) (.ref 18) true (EH S nD p wD due j tx sg [] [sg] ro r st c o (ZC sg)):=Ks (j:=17) (k:=16) (v:=sg) rfl rfl rfl rfl
 have h:RX z.c aL.names 13 LX (EH S nD p wD due j tx sg [] [sg] ro r st c o []) [bV aL.body 16,bV aL.body 17] (.ret (.dat (.boo true))) (EH S nD p wD due j tx sg [] [sg] ro r st c o (ZC sg)):=
  z.useX (hs:=[.tst 1336007016 false,.itm 1338025061 (.dat (.boo true))]) (g:=cg [(false,aX p 2)]) (aB (mH (b:=2) p2) aG) (an o1 trivial) (by cases j <;>cases ro <;>kernel_rfl)
 exact⟨_,h⟩
end
end
section
theorem Kt {z:bS}{n f:Nat}{F:Fn}{args:List V}{hp hp1 hp2:List O}{X:Fx}{v:V}(e:nO JG f=some F)(h1:Nat.ble args.length F.params.length=true)(h2:Nat.ble F.params.length (args.length+F.dflt.length)=true)(en:sN F args hp=some (X,hp1))(b:RX z.c F.names n X hp1 F.body (.ret v) hp2):CallOk z.c (n+1) f args hp v hp2:=
 xN (c:=z.c) (n:=n) (z.tab f F (f8 e)) h1 h2 en b rfl
structure PlainL (ms:List Int) (p:Nat) (w:Nm) (due:List Nm) (tx sg:Nm):Prop where
 ok:∀ c∈tx,mR c
 n13:13 ∉ tx
 nb0:cY tx=0
 rows:∃ init last,bO tx [10]=init++[last]∧gV (0,0) tx=(init.length,last.length)∧init.length≤9000∧last.length≤9000
 run:∃ b k q,run k (jI p) (.dead b .non) tx=some q∧Lim a0 q∧(a0.toks q).fs=due∧(p<2→(a0.toks q).got=sg∧(a0.toks q).ts=[])∧(2≤p→(a0.toks q).got=[]∧(a0.toks q).ts=[sg])
theorem mW (p:Nat):∀ ms:List Int,(b8 p ms).1.length≤30*ms.length
 | []=>A7 _
 |n::t=>by
  have h:=mW p t
  have s:=(iK (n:=n) (rest:=(b8 p t).1) (p:=p) (fO n)).x
  show((cH (aY n) n (b8 p t).1 p).1++(b8 p t).1).length≤30 * (t.length+1)
  rw[A2]
  lia
theorem oV {p:Nat}{w:Nm}(hp:p<5):(eM p w).length≤w.length+20:=by
 have lh:∀ p,p<5→(Kh.getD p []).length≤10∧(HN.getD p []).length≤10:=by decide+kernel
 obtain⟨l1,l2⟩:=lh p hp
 unfold eM
 rw[A2,A2]
 lia
theorem Qr {f:Fr}{a:Acc}{r:Stm}{st:Nat}{c:V}{o:Q3}:WI f a [] r st c o []=AL f a r st c [] o:=by
 unfold WI AL
 rw[B1,B1]
section
variable {z:bS}
theorem WM (G:GenD z.K 268 gN gI.b)(R:RplOk z.K)(PW:∀ ms:List Int,ms.length≤10→PlainL ms (bQ ms) (b8 (bQ ms) ms).1 (b8 (bQ ms) ms).2 (eM (bQ ms) (b8 (bQ ms) ms).1) (hV ms)){ns:List Int}(hn:ns.length≤1000):CallOk z.c 14 839 [.dat (.lst (aQ ns))] [] (.dat (.boo true)) []:=by
 have lm:(ns.take 10).length≤10:=List.length_take_le ..
 have P:=PW (ns.take 10) lm
 have p5:bQ (ns.take 10)<5:=by
  obtain⟨k,hk,lk⟩:=bM (((ns.take 10).length:Int)+((ns.take 10).take 1).sum) 5 (by decide)
  unfold bQ
  rw[show Int.fmod (((ns.take 10).length:Int)+((ns.take 10).take 1).sum) 5=(k:Int)from hk]
  exact lk
 have lw:=mW (bQ (ns.take 10)) (ns.take 10)
 have lt:=oV (p:=bQ (ns.take 10)) (w:=(b8 (bQ (ns.take 10)) (ns.take 10)).1) p5
 obtain⟨r1,b,hr,at_⟩:=wY (z:=z) (k:=BU (ns.take 10)) P.ok P.n13 (by lia) P.nb0 (Nat.le_add_right _ _)
 obtain⟨v,hc⟩:=WG (z:=z) hn rfl rfl p5 (by lia) hr
 obtain⟨bb,k,q,e,L,hf,h1,h2⟩:=P.run
 obtain⟨init,last,hs,ha,li',ll⟩:=P.rows
 obtain⟨hpE,en,w⟩:=WF (f:=Ql (.lst (aQ ns)) (ns.take 10) (bQ (ns.take 10)) (b8 (bQ (ns.take 10)) (ns.take 10)).1 (b8 (bQ (ns.take 10)) (ns.take 10)).2 v (eM (bQ (ns.take 10)) (b8 (bQ (ns.take 10)) (ns.take 10)).1) (hV (ns.take 10))) G R e at_ L
 have eb:aL.body.take 13++(wS.s::bV aL.body 14::bV aL.body 15::[bV aL.body 16,bV aL.body 17])=aL.body:=by kernel_rfl
 suffices h:∃ hp',RX z.c aL.names 13 LX [.fr [(cF,.dat (.lst (aQ ns)))]] aL.body (.ret (.dat (.boo true))) hp' by
  obtain⟨hp',q⟩:=h
  have h3:CallOk z.c 14 839 [.dat (.lst (aQ ns))] [] (.dat (.boo true)) hp':=Kt (F:=aL) (by kernel_rfl) (by kernel_rfl) (by kernel_rfl) (by kernel_rfl) q
  exact kQ h3 (fz:=[]) (τ:=[]) rfl
 rw[← eb]
 generalize ns.take 10=ms at *
 generalize bQ ms=p at *
 generalize hW:b8 p ms=W at *
 obtain⟨wr,due⟩:=W
 generalize eM p wr=tx at *
 generalize hV ms=sg at *
 cases en with
 |mk r st ct at2=>
  generalize a0.toks q=a at *
  obtain⟨got,fs,ts,ro⟩:=a
  obtain rfl:fs=due:=hf
  obtain⟨p0,t1,t2⟩:=at2.st rfl
  have hpos:r.pos=gV (0,0) tx:=by
   unfold Stm.pos
   rw[t2,t1,B1,iD]
  have hp1:r.pos.1=init.length:=by rw[hpos,ha]
  have hp2:r.pos.2=last.length:=by rw[hpos,ha]
  have d1:=Qq (z:=z) (S:=.lst (aQ ns)) (nD:=.lst (aQ ms)) (p:=p) (wD:=.str wr) (due:=fs) (j:=XU v) (tx:=tx) (sg:=sg) (got:=got) (ts:=ts) (ro:=ro) (r:=r) (st:=st) (c:=pL ct) (o:=o7 ct) (by have:tx.length≤wr.length+20:=lt;have:wr.length≤30*ms.length:=lw;lia) hs li'
  rw[Qr]at d1
  have d2:=ZB (z:=z) (S:=.lst (aQ ns)) (nD:=.lst (aQ ms)) (p:=p) (wD:=.str wr) (due:=fs) (j:=XU v) (tx:=tx) (sg:=sg) (got:=got) (ts:=ts) (ro:=ro) (r:=r) (st:=st) (c:=pL ct) (o:=o7 ct) hs li' ll at2.ok.off hp1 hp2
  have d3:∃ hp',RX z.c aL.names 13 LX (EH (.lst (aQ ns)) (.lst (aQ ms)) p (.str wr) fs (XU v) tx sg got ts ro r st (pL ct) (o7 ct) []) [bV aL.body 16,bV aL.body 17] (.ret (.dat (.boo true))) hp':=by
   rcases Nat.lt_or_ge p 2 with q2|q2
   ·obtain⟨g1,g2⟩:=h1 q2
    obtain rfl:ts=[]:=g2
    exact WJ q2 g1
   ·obtain⟨g1,g2⟩:=h2 q2
    obtain rfl:got=[]:=g1
    obtain rfl:ts=[sg]:=g2
    exact WK q2
  obtain⟨hp',d3⟩:=d3
  exact⟨hp',rY hc (cP w (cP d1 (cP d2 d3)))⟩
end
end
section
open PySem.Builtin.Str (strSub partsBetween occurrences)
open PySem.StrLaws
noncomputable def iP (p:Nm):List Nm→List Nm
 | []=>[p]
 |l::r=>(p++l)::r
noncomputable def a8:Nm→List Nm
 | []=>[[]]
 |c::r=>bif Nat.beq c 10 then []::a8 r else iP [c] (a8 r)
theorem GC (p q:Nm):∀ ls,iP p (iP q ls)=iP (p++q) ls
 | []=>rfl
 |l::r=>by show(p++(q++l))::r=_;rw[← B2];rfl
theorem uH:∀ x,a8 x≠[]
 | []=>nofun
 |c::r=>by
  show(bif Nat.beq c 10 then []::a8 r else iP [c] (a8 r))≠[]
  cases Nat.beq c 10 with
  |true=>exact nofun
  |false=>cases a8 r <;>exact nofun
theorem GD {ls:List Nm}(h:ls≠[]):iP [] ls=ls:=by
 cases ls with
 |nil=>exact absurd rfl h
 |cons _ _=>rfl
theorem jE:∀ (n:Nat) (l:Nm),(∀ k,k<n→([10]:Nm).isPrefixOf (l.drop k)=false)→a8 l=iP (l.take n) (a8 (l.drop n))
 |0,l,_=>(GD (uH l)).symm
 |n+1,[],_=>rfl
 |n+1,c::r,h=>by
  have h0:=h 0 (Nat.succ_pos n)
  have hc:Nat.beq c 10=false:=by
   cases q:Nat.beq c 10 with
   |false=>rfl
   |true=>
    obtain rfl:=B0 q
    rw[show([10]:Nm).isPrefixOf ((10::r:Nm).drop 0)=true from by simp[List.isPrefixOf]]at h0
    cases h0
  show(bif Nat.beq c 10 then []::a8 r else iP [c] (a8 r))=_
  rw[hc,jE n r λk hk=>h (k+1) (Nat.succ_lt_succ hk)]
  show iP [c] (iP _ _)=_
  rw[GC]
  rfl
theorem ZD:([10]:Nm)≠[]:=λq=>by cases q
theorem mA (x:Nm):∀ (cuts:List Nat) (a f:Nat),ChainG (st x) (st [10]) (st x).length a cuts f→(∀ k,f≤k→¬ PySem.StrLaws.At (st x) (st [10]) (st x).length k)→
  (partsFrom (st x) (st [10]).length a cuts).map (λw=>w.cps.toList)=a8 (x.drop a)
 | [],a,f,h,hn=>by
  have h:f=a:=h
  subst h
  show [(strSub (st x) f (st x).length).cps.toList]=_
  rw[strSub_toList,cI,dZ,List.take_of_length_le (by simp)]
  rw[jE (x.drop f).length (x.drop f) λk _=>?_]
  ·rw[List.drop_of_length_le (A7 _),List.take_of_length_le (A7 _)]
   show _=[x.drop f++[]]
   rw[B1]
  ·have:=hn (f+k) (by lia)
   rw[kW (y:=[10]) ZD,← List.drop_drop]at this
   exact Bool.eq_false_iff.mpr this
 |c::r,a,f,h,hn=>by
  obtain⟨h1,h2,h3,h4⟩:=h
  have ih:=mA x r (c+(st [10]).length) f h4 hn
  show(strSub (st x) a c).cps.toList::(partsFrom (st x) (st [10]).length (c+(st [10]).length) r).map (λw=>w.cps.toList)=_
  rw[ih,strSub_toList,cI]
  rw[jE (c-a) (x.drop a) λk hk=>?_]
  ·rw[List.drop_drop,show a+(c-a)=c by lia]
   have hh:=(kW (y:=[10]) ZD).mp h2
   have e:x.drop c=10::x.drop (c+1):=by
    rw[← List.drop_drop]
    cases q:x.drop c with
    |nil=>rw[q]at hh;cases hh
    |cons y t=>
     rw[q]at hh
     have:(10:Nat)=y:=by simpa using hh
     subst this;rfl
   rw[e]
   show _=((x.drop a).take (c-a)++[])::a8 (x.drop (c+1))
   rw[B1]
   rfl
  ·have:=h3 (a+k) (by lia) (by lia)
   rw[kW (y:=[10]) ZD,← List.drop_drop]at this
   exact Bool.eq_false_iff.mpr this
theorem GE (s:Str):1≤PySem.Builtin.Str.strKind s:=by
 unfold PySem.Builtin.Str.strKind
 split
 ·exact A7 _
 ·split <;>decide
theorem uI (x:Nm):bO x [10]=a8 x:=by
 obtain⟨f,h1,h2⟩:=occ_tight (st x) (st [10]) (by decide)
 have key:=mA x _ 0 f h1 h2
 rw[List.drop_zero]at key
 unfold bO Txt.split
 have k1:decide (PySem.Builtin.Str.strKind (st x)<PySem.Builtin.Str.strKind (st [10]))=false:=decide_eq_false (Nat.not_lt.mpr (A5 (by decide+kernel:PySem.Builtin.Str.strKind (st [10])≤1) (GE _)))
 rw[k1,Bool.or_false]
 cases x with
 |nil=>rfl
 |cons c r=>
  rw[if_neg (by rw[decide_eq_true_eq];show ¬ (r.length+1<1);lia)]
  cases hf:(occurrences (st (c::r)) (st [10]) 0 (st (c::r)).length ((st (c::r)).length+1)).isEmpty with
  |true=>
   rw[if_pos rfl]
   rw[List.isEmpty_iff.mp hf]at key
   rw[← key]
   show [(st (c::r)).cps.toList]=[(strSub (st (c::r)) 0 (st (c::r)).length).cps.toList]
   rw[strSub_toList,cI,dZ];simp
  |false=>
   rw[if_neg A8,partsBetween_eq,key]
theorem lP:∀ (x:Nm) (a b:Int),∃ init last,a8 x=init++[last]∧gV (a,b) x=(a+init.length,(if init=[]then b else 0)+last.length)
 | [],a,b=>⟨[],[],rfl,by show(a,b)=(a+0,b+0);rw[Int.add_zero,Int.add_zero]⟩
 |c::r,a,b=>by
  cases h:Nat.beq c 10 with
  |true=>
   obtain rfl:=B0 h
   obtain⟨i,l,e,q⟩:=lP r (a+1) 0
   refine⟨[]::i,l,congrArg ([]::·) e,?_⟩
   show gV (a+1,0) r=_
   rw[q,if_neg (show ¬ (([]:Nm)::i:List Nm)=[]from λq=>by cases q),ite_self]
   show(a+1+(i.length:Int),_)=(a+((i.length+1:Nat):Int),_)
   rw[show a+1+(i.length:Int)=a+((i.length+1:Nat):Int)from by lia]
  |false=>
   have hc:c≠10:=λq=>by rw[q]at h;cases h
   obtain⟨i,l,e,q⟩:=lP r a (b+1)
   have e1:a8 (c::r)=iP [c] (a8 r):=by
    show(bif Nat.beq c 10 then []::a8 r else iP [c] (a8 r))=_
    rw[h];rfl
   have e2:gV (a,b) (c::r)=gV (a,b+1) r:=by
    show gV (if c=10 then(a+1,0)else(a,b+1)) r=_
    rw[if_neg hc]
   rw[e1,e,e2,q]
   cases i with
   |nil=>exact⟨[],c::l,rfl,by show(a+0,b+1+(l.length:Int))=(a+0,b+((l.length+1:Nat):Int));rw[show b+1+(l.length:Int)=b+((l.length+1:Nat):Int)from by lia]⟩
   |cons y t=>exact⟨(c::y)::t,l,rfl,by rw[if_neg (show ¬ (y::t:List Nm)=[]from λq=>by cases q),if_neg (show ¬ ((c::y)::t:List Nm)=[]from λq=>by cases q)];rfl⟩
theorem qN:∀ x:Nm,(a8 x).length≤x.length+1∧∀ l∈a8 x,l.length≤x.length
 | []=>⟨A7 _,λl m=>by rw[List.mem_singleton.mp m];exact A7 _⟩
 |c::r=>by
  obtain⟨h1,h2⟩:=qN r
  show(bif Nat.beq c 10 then []::a8 r else iP [c] (a8 r)).length≤r.length+1+1∧∀ l∈(bif Nat.beq c 10 then []::a8 r else iP [c] (a8 r)),l.length≤r.length+1
  cases Nat.beq c 10 with
  |true=>
   refine⟨Nat.succ_le_succ h1,λl m=>?_⟩
   rcases List.mem_cons.mp m with rfl|m
   ·exact Nat.zero_le _
   ·exact Nat.le_succ_of_le (h2 l m)
  |false=>
   have ne:=uH r
   show(iP [c] (a8 r)).length≤_∧∀ l∈iP [c] (a8 r),_
   generalize a8 r=ls at *
   cases ls with
   |nil=>exact absurd rfl ne
   |cons y t=>
    refine⟨Nat.le_succ_of_le h1,λl m=>?_⟩
    rcases List.mem_cons.mp m with rfl|m
    ·exact Nat.succ_le_succ (h2 y (.head _))
    ·exact Nat.le_succ_of_le (h2 l (.tail _ m))
theorem Ku {x:Nm}(h:x.length≤8000):∃ init last,bO x [10]=init++[last]∧gV (0,0) x=(init.length,last.length)∧init.length≤9000∧last.length≤9000:=by
 obtain⟨i,l,e,q⟩:=lP x 0 0
 obtain⟨h1,h2⟩:=qN x
 rw[e]at h1 h2
 rw[A2]at h1
 have h1:i.length+1≤x.length+1:=h1
 have h3:=h2 l (List.mem_append_right _ (.head _))
 refine⟨i,l,(uI x).trans e,?_,by lia,by lia⟩
 rw[q,ite_self,Int.zero_add,Int.zero_add]
end
section
open PySem.StrLaws (found_one)
noncomputable def kD (c:Nat):Bool:=HJ c&&(!Nat.beq c 13&& !lE c)
noncomputable def fP (x:Nm):Bool:=x.all kD
theorem uJ {x y:Nm}(h:fP x=true)(k:fP y=true):fP (x++y)=true:=by
 unfold fP at *
 rw[List.all_append,h,k];rfl
theorem BX {c:Nat}(h1:160≤c)(h2:c≤1114111):kD (eV c)=true:=by
 unfold eV
 cases h:BJ c with
 |true=>rfl
 |false=>
  show kD c=true
  unfold BJ at h
  have h:=Bool.or_eq_false_iff.mp h
  have h':=Bool.or_eq_false_iff.mp h.2
  have f1:c<55296∨57344≤c:=by
   rcases Nat.lt_or_ge c 55296 with q|q
   ·exact .inl q
   ·refine .inr (Nat.le_of_not_lt λq2=>?_)
    rw[A4 q,show Nat.blt c 57344=true from A4 q2]at h
    cases h.1
  have f2:c<64976∨65008≤c:=by
   rcases Nat.lt_or_ge c 64976 with q|q
   ·exact .inl q
   ·refine .inr (Nat.le_of_not_lt λq2=>?_)
    rw[A4 q,show Nat.blt c 65008=true from A4 q2]at h'
    cases h'.1
  have f3:c%65536<65534:=Nat.lt_of_not_le λq=>by
   rw[show Nat.blt 65533 (c%65536)=true from A4 q]at h'
   cases h'.2
  have b:JN c=true:=by
   unfold JN
   rw[A4 h1,A4 h2,show Nat.blt (c%65536) 65534=true from A4 f3]
   have e1:(Nat.blt c 55296||(Nat.ble 57344 c&&(Nat.blt c 64976||Nat.ble 65008 c)))=true:=by
    rcases f1 with q|q
    ·rw[show Nat.blt c 55296=true from A4 q];rfl
    ·rw[A4 q]
     rcases f2 with q2|q2
     ·rw[show Nat.blt c 64976=true from A4 q2];exact Bool.or_true _
     ·rw[A4 q2,Bool.or_true];exact Bool.or_true _
   rw[e1];rfl
  have b1:Nat.beq c 13=false:=dO (by lia)
  have b2:Nat.beq c 1=false:=dO (by lia)
  have b3:Nat.beq c 64976=false:=dO (by lia)
  unfold kD HJ lE
  rw[b,b1,b2,b3,Bool.or_true,Bool.or_true,Bool.or_true];rfl
theorem qO (n:Int):fP (aY n)=true:=by
 unfold aY
 obtain⟨k,hk,lk⟩:=bM n 27 (by decide)
 have hk:Int.fmod n 27=k:=hk
 rw[hk]
 show fP (bif Nat.blt k 26 then uN.getD k []else _)=true
 cases h:Nat.blt k 26 with
 |true=>
  have l26:k<26:=A3 h
  have q:∀ k,k<26→fP (uN.getD k [])=true:=by decide+kernel
  exact q k l26
 |false=>
  obtain⟨m,hm,lm⟩:=bM (Int.fdiv n 216) 1113952 (by decide)
  have hm:Int.fmod (Int.fdiv n 216) 1113952=m:=hm
  rw[hm]
  have q:=BX (c:=160+m) (by lia) (by lia)
  show(kD (eV (160+m))&&true)=true
  rw[q];rfl
noncomputable def fI (xs:Nm)(c:Nat):Bool:=xs.any λa=>Nat.beq a c
noncomputable def fW:List Nm:=[[38,60,0],[38,60,0],[34,38,0],[39,38,0],[38,62,34,39,61,60,96,0,9,10,12,32,13]]
noncomputable def jJ (p c:Nat):Bool:= !fI (fW.getD p []) c
noncomputable def WN (p c:Nat):Bool:=(Nat.beq c 38||(jJ p c||(Nat.beq p 1&&Nat.beq c 60)))&& !fI [0,9,12,13,47] c
noncomputable def wB (p c:Nat):Bool:=kD c&&WN p c
noncomputable def wX (p:Nat)(x:Nm):Bool:=x.all (wB p)
theorem dS {p:Nat}{x y:Nm}(h:wX p x=true)(k:wX p y=true):wX p (x++y)=true:=by
 unfold wX at *
 rw[List.all_append,h,k];rfl
theorem Kv {p:Nat}{x:Nm}(h:wX p x=true):fP x=true:=List.all_eq_true.mpr λc m=>(A0 (List.all_eq_true.mp h c m)).1
theorem lQ:∀ {xs:Nm} {c:Nat},xs.all (Nat.blt · 160)=true→160≤c→fI xs c=false
 | [],_,_,_=>rfl
 |a::xs,c,h,k=>by
  have h:=A0 h
  have l:a<160:=A3 h.1
  show(Nat.beq a c||fI xs c)=false
  rw[dO (by lia),lQ h.2 k];rfl
theorem Qs {p c:Nat}(hp:p<5)(h:160≤c):WN p c=true:=by
 have q:∀ p,p<5→(fW.getD p []).all (Nat.blt · 160)=true:=by decide+kernel
 unfold WN jJ
 rw[lQ (q p hp) h,lQ (by rfl) h]
 cases Nat.beq c 38 <;>rfl
theorem Kw {c:Nat}(h:160≤c):160≤eV c:=by
 unfold eV
 cases BJ c with
 |true=>exact(by decide:160≤955)
 |false=>exact h
theorem Kx (c p:Nat):cR c p=decide (c∈oO p):=found_one (st (oO p)) c
theorem Ms {p:Nat}(hp:p<5)(n:Int)(h1:nb (aY n) [38]=false)(h2:(aY n).any (cR · p)=false):wX p (aY n)=true:=by
 have g:=qO n
 unfold aY at *
 obtain⟨k,hk,lk⟩:=bM n 27 (by decide)
 have hk:Int.fmod n 27=k:=hk
 rw[hk]at g h1 h2 ⊢
 have e:Nat.blt (k:Int).toNat 26=Nat.blt k 26:=rfl
 have e2:(k:Int).toNat=k:=rfl
 rw[e,e2]at g h1 h2
 show wX p (bif Nat.blt k 26 then uN.getD k []else _)=true
 cases h:Nat.blt k 26 with
 |true=>
  have l26:k<26:=A3 h
  rw[h]at h1 h2
  have h1:nb (uN.getD k []) [38]=false:=h1
  have h2:(uN.getD k []).any (cR · p)=false:=h2
  rw[show(cR · p)=λc=>decide (c∈oO p)from funext λc=>Kx c p]at h2
  have q:∀ p,p<5→∀ k,k<26→(nb (uN.getD k []) [38]||((uN.getD k []).any (λc=>decide (c∈oO p))||wX p (uN.getD k [])))=true:=by decide+kernel
  have w:=q p hp k l26
  rw[h1,h2]at w
  exact w
 |false=>
  rw[h]at g
  obtain⟨m,hm,lm⟩:=bM (Int.fdiv n 216) 1113952 (by decide)
  have hm:Int.fmod (Int.fdiv n 216) 1113952=m:=hm
  rw[hm]at g ⊢
  have g:(kD (eV (160+m))&&true)=true:=g
  show(wB p (eV (160+m))&&true)=true
  unfold wB
  rw[Qs hp (Kw (by lia)),(A0 g).1];rfl
theorem WO:((List.range 5).all λp=>aS.all (wX p))=true:=by kernel_rfl
theorem Mt {p:Nat}(hp:p<5):∀ (f c:Nat) (row:Nm),wX p row=true→wX p (dR f c row)=true
 |0,_,_,h=>h
 |f+1,c,row,h=>by
  show wX p (bif Nat.beq c 0 then row else dR f (c/16) ([jD (c%16)]++row))=true
  cases Nat.beq c 0 with
  |true=>exact h
  |false=>
   have q:∀ p,p<5→∀ k,k<16→wX p [jD k]=true:=by decide+kernel
   exact Mt hp f _ _ (dS (q p hp _ (Nat.mod_lt _ (by decide))) h)
end
section
theorem GG (s:String):(PySem.Str.ofString s).cps.toList=s.toList.map Char.toNat:=by
 rw[PySem.Str.ofString_eq_toList]
theorem oX (c:Nat):bJ (c:Int)=(Nat.toDigits 10 c).map Char.toNat:=by
 unfold bJ
 rw[GG]
 show(Nat.repr c).toList.map _=_
 unfold Nat.repr
 rw[String.toList_ofList]
theorem uK:∀ d,d<10→(Nat.digitChar d).toNat=48+d:=by decide+kernel
theorem mX {c:Nat}(h:c<10):bJ (c:Int)=[48+c]:=by
 rw[oX,Nat.toDigits_of_lt_base h]
 exact congrArg (λx=>[x]) (uK c h)
theorem zV {c:Nat}(h:10≤c):bJ (c:Int)=bJ ((c/10:Nat):Int)++[48+c%10]:=by
 rw[oX,oX,Nat.toDigits_of_base_le (by decide) h,List.map_append]
 exact congrArg (_++·) (congrArg (λx=>[x]) (uK _ (Nat.mod_lt _ (by decide))))
theorem GH:∀ p,p<5→∀ d,d<10→wX p [48+d]=true:=by decide+kernel
section
variable {p:Nat}(hp:p<5)
include hp
theorem GJ:∀ (f c:Nat),c<10 ^ f→wX p (bJ (c:Int))=true
 |0,c,h=>by
  obtain rfl:c=0:=Nat.lt_one_iff.mp h
  rw[mX (by decide)]
  exact GH p hp 0 (by decide)
 |f+1,c,h=>by
  rcases Nat.lt_or_ge c 10 with q|q
  ·rw[mX q];exact GH p hp c q
  ·rw[zV q]
   exact dS (GJ f (c/10) (Nat.div_lt_of_lt_mul (by rw[Nat.pow_succ]at h;lia))) (GH p hp _ (Nat.mod_lt _ (by decide)))
theorem sG {x:Nm}(h:((List.range 5).all λp=>wX p x)=true):wX p x=true:=List.all_eq_true.mp h p (List.mem_range.mpr hp)
theorem wZ {c:Nat}(h:c≤1114111):wX p (b7 c)=true:=dS (dS (x:=[38,35]) (sG hp (by kernel_rfl)) (GJ hp 7 c (Nat.lt_of_le_of_lt h (by decide)))) (sG hp (by kernel_rfl))
theorem gQ {u:Nm}(hu:Uok u):wX p (c9 u)=true:=by
 cases hu with
 |one h=>exact dS (x:=b7 _) (wZ hp h) rfl
 |two=>exact dS (x:=b7 61) (wZ hp (by decide)) (dS (x:=b7 8421) (wZ hp (by decide)) rfl)
end
end
section
theorem Qt {u:Nm}{n:Int}{rest:Nm}{p:Nat}(hp:p<5)(hu:Uok u):wX p (fV u n rest p).1=true:=by
 have hx:wX p (bH (bN u) n)=true:=by
  by_cases h:bN u=[]
  ·rw[h];rfl
  ·exact List.all_eq_true.mp (List.all_eq_true.mp WO p (List.mem_range.mpr hp)) _ (lO h)
 show wX p (bif nb (bH (bN u) n) []then(c9 u,[])else bif nb [cA (bH (bN u) n)] [59]then _ else bif nb (cG (bH (bN u) n++rest)) (bH (bN u) n)&& !(Nat.blt 1 p&&eO (rest.take 1) o9)then _ else _:Nm×List Nm).1=true
 generalize bH (bN u) n=x at *
 have lx:wX p ([38]++x)=true:=dS (x:=[38]) (sG hp (by kernel_rfl)) hx
 cases nb x []with
 |true=>exact gQ hp hu
 |false=>cases nb [cA x] [59]with
  |true=>exact lx
  |false=>cases nb (cG (x++rest)) x&& !(Nat.blt 1 p&&eO (rest.take 1) o9)with
   |true=>exact lx
   |false=>exact gQ hp hu
theorem Qu {u rest:Nm}{p:Nat}(hp:p<5)(hu:Uok u)(hg:nb u [38]=false→u.any (cR · p)=false→wX p u=true):wX p (fE u rest p).1=true:=by
 unfold fE
 cases h1:nb u [38]with
 |true=>
  show wX p (match fN rest (Nat.blt 1 p)with|some l=>([38],l)|none=>(c9 u,[]):Nm×List Nm).1=true
  cases fN rest (Nat.blt 1 p)with
  |none=>exact gQ hp hu
  |some l=>exact sG hp (by kernel_rfl)
 |false=>cases h2:u.any (cR · p)with
  |true=>exact gQ hp hu
  |false=>exact hg h1 h2
theorem WP {f c:Nat}{rest:Nm}{p:Nat}(hp:p<5)(hc:c≤1114111):wX p (i5 f c rest).1=true:=by
 have h6:wX p (dR 6 c [])=true:=Mt hp 6 c [] rfl
 have ld:=GJ hp 7 c (Nat.lt_of_le_of_lt hc (by decide))
 unfold i5
 cases Nat.beq f 6 with
 |true=>exact dS (dS (x:=aAs) (sG hp (by kernel_rfl)) h6) (sG hp (by kernel_rfl))
 |false=>cases Nat.beq f 5 with
  |true=>cases eO (rest.take 1) (lM++[59])with
   |true=>exact gQ hp (.one hc)
   |false=>exact dS (x:=[38,35]) (sG hp (by kernel_rfl)) ld
  |false=>cases eO (rest.take 1) (j9++[59])with
   |true=>exact gQ hp (.one hc)
   |false=>exact dS (x:=[38,35]) (sG hp (by kernel_rfl)) (dS (x:=[120]) (sG hp (by kernel_rfl)) h6)
theorem Qv {u:Nm}{n:Int}{rest:Nm}{p:Nat}(hp:p<5)(hu:Uok u)(hg:nb u [38]=false→u.any (cR · p)=false→wX p u=true):wX p (cH u n rest p).1=true:=by
 unfold cH oP
 generalize (Int.fmod (Int.fdiv n 27) 8).toNat=f
 cases Nat.blt f 2 with
 |true=>exact Qu hp hu hg
 |false=>cases Nat.blt f 5 with
  |true=>exact Qt hp hu
  |false=>cases hu with
   |one hc=>exact WP hp hc
   |two=>exact gQ hp .two
theorem GK {p:Nat}(hp:p<5):∀ ms:List Int,wX p (b8 p ms).1=true
 | []=>rfl
 |n::t=>dS (x:=(cH (aY n) n (b8 p t).1 p).1) (Qv hp (fO n) (Ms hp n)) (GK hp t)
theorem BY {p:Nat}{w:Nm}(hp:p<5)(h:fP w=true):fP (eM p w)=true:=by
 have q:∀ p,p<5→fP (Kh.getD p [])=true∧fP (HN.getD p [])=true:=by decide+kernel
 exact uJ (uJ (q p hp).1 h) (q p hp).2
theorem fQ:∀ {b:Bool},(!b)=true→b=false
 |false,_=>rfl
 |true,h=>by cases h
theorem Ky {x:Nm}(h:fP x=true):(∀ c∈x,mR c)∧13 ∉ x∧cY x=0:=by
 have a:∀ c∈x,HJ c=true∧Nat.beq c 13=false∧lE c=false:=λc m=>by
  have q:=List.all_eq_true.mp h c m
  unfold kD at q
  have q:=A0 q
  have q2:=A0 q.2
  exact⟨q.1,fQ q2.1,fQ q2.2⟩
 refine⟨λc m=>(a c m).1,λm=>(by have:=(a 13 m).2.1;cases this),?_⟩
 unfold cY
 rw[List.filter_eq_nil_iff.mpr λc m=>by rw[(a c m).2.2];exact A8]
 rfl
theorem GL {ms:List Int}(hm:ms.length≤10){p:Nat}(hp:p<5)
  (run:∃ b k q,run k (jI p) (.dead b .non) (eM p (b8 p ms).1)=some q∧Lim a0 q∧(a0.toks q).fs=(b8 p ms).2∧(p<2→(a0.toks q).got=hV ms∧(a0.toks q).ts=[])∧(2≤p→(a0.toks q).got=[]∧(a0.toks q).ts=[hV ms])):
  PlainL ms p (b8 p ms).1 (b8 p ms).2 (eM p (b8 p ms).1) (hV ms):=by
 have g:=Ky (BY hp (Kv (GK hp ms)))
 have l:=mW p ms
 have lt:=oV (p:=p) (w:=(b8 p ms).1) hp
 exact⟨g.1,g.2.1,g.2.2,Ku (by lia),run⟩
end
section
open PySem.StrLaws (found_one)
noncomputable def kM (p:Nat):D:=([.non,.non,.str [34],.str [39],.str [62]]:List D).getD p .non
noncomputable abbrev kO (p:Nat):Bool:=Nat.blt 1 p
noncomputable abbrev bT (p:Nat):Nm:=HN.getD p []
inductive Sem (p:Nat):Nm→Nm→List Nm→Prop
 |nil:Sem p (bT p) [] []
 |chr {c:Nat} {l g:Nm} {e:List Nm} (h:jJ p c=true) (s:Sem p l g e):Sem p (c::l) (c::g) e
 |lt {l g:Nm} {e:List Nm} (h:p=1) (n:l.head?≠some 47) (s:Sem p l g e):Sem p (60::l) (60::g) e
 |amp {l r x g:Nm} {es e:List Nm} (h:c7 (kO p) (kM p) l=some ((es.map Tok.err,x),r)) (n:r.length≤l.length) (s:Sem p r g e):Sem p (38::l) (x++g) (es++e)
theorem uL {p c:Nat}{t:Nm}(hp:p<5)(h:bT p=c::t):jJ p c=false∧c≠38∧(p=1→c≠60):=by
 have q:∀ p,p<5→(match bT p with| []=>true|c::_=> !jJ p c&& !Nat.beq c 38)=true∧bT 1=[]:=by decide+kernel
 have w:=(q p hp).1
 rw[h]at w
 have w:=A0 (w:(!jJ p c&& !Nat.beq c 38)=true)
 refine⟨fQ w.1,(λe=>by have:=fQ w.2;rw[e]at this;cases this),λe=>?_⟩
 subst e
 rw[(q 1 hp).2]at h
 cases h
theorem Mu {p:Nat}(hp:p<5):jJ p 38=false∧(p=1→jJ p 60=false):=by
 have q:∀ p,p<5→(jJ p 38=false∧jJ 1 60=false):=by decide+kernel
 exact⟨(q p hp).1,λe=>e ▸ (q p hp).2⟩
theorem Kz {p:Nat}{c:Nat}{l g:Nm}{e:List Nm}(s:Sem p (c::l) g e):bT p=c::l∨((∃ g',g=c::g'∧Sem p l g' e)∨((c=60∧p=1)∨c=38)):=
 Sem.casesOn (motive:=λx g e _=>x=c::l→(bT p=c::l∨((∃ g',g=c::g'∧Sem p l g' e)∨((c=60∧p=1)∨c=38)))) s
  (λq=>.inl q) (λ_ s q=>.inr (.inl ⟨_,congrArg (· ::_) (List.cons.inj q).1,(List.cons.inj q).2▸s⟩)) (λh _ _ q=>.inr (.inr (.inl ⟨(List.cons.inj q).1.symm,h⟩))) (λ_ _ _ q=>.inr (.inr (.inr (List.cons.inj q).1.symm))) rfl
section
variable {p:Nat}(hp:p<5){l g:Nm}{e:List Nm}
include hp
theorem GN {c:Nat}(h:jJ p c=true)(s:Sem p (c::l) g e):∃ g',g=c::g'∧Sem p l g' e:=
 (Kz s).elim (λq=>absurd h (by rw[(uL hp q).1];exact A8)) λq=>q.elim id λq=>q.elim
  (λq=>absurd h (by rw[q.1,(Mu hp).2 q.2];exact A8)) λe1=>absurd h (by rw[e1,(Mu hp).1];exact A8)
theorem kF:∀ {s y g:Nm},(∀ c∈s,jJ p c=true)→Sem p (s++y) g e→∃ g',g=s++g'∧Sem p y g' e
 | [],_,g,_,h=>⟨g,rfl,h⟩
 |c::s,y,g,hs,h=>by
  obtain⟨g1,rfl,h1⟩:=GN hp (hs c (.head _)) h
  obtain⟨g2,rfl,h2⟩:=kF (λx m=>hs x (.tail _ m)) h1
  exact⟨g2,rfl,h2⟩
theorem zW (s:Sem p (bT p) g e):g=[]∧e=[]:=
 Sem.casesOn (motive:=λx g e _=>bT p=x→(g=[]∧e=[])) s (λ_=>⟨rfl,rfl⟩) (λh' _ q=>absurd h' (by rw[(uL hp q).1];exact A8)) (λh' _ _ q=>absurd rfl ((uL hp q).2.2 h')) (λ_ _ _ q=>absurd rfl (uL hp q).2.1) rfl
theorem kG {a x:Nm}{y:Nm}{es:List Nm}(h:c7 (kO p) (kM p) (a++y)=some ((es.map Tok.err,x),y))(s:Sem p y g e):Sem p (38::(a++y)) (x++g) (es++e):=.amp h (by rw[A2];exact Nat.le_add_left ..) s
end
theorem mK (a c:Nat):nb [a] [c]=Nat.beq a c:=by
 show(match Nat.beq a c with|true=>nb [] [] |false=>false)=_
 cases Nat.beq a c <;>rfl
theorem i6 (c:Nat):∀ xs:Nm,bU (.str [c]) (xs.map λa=>.str [a])=fI xs c
 | []=>rfl
 |a::xs=>by
  show(nb [a] [c]||bU (.str [c]) (xs.map λa=>.str [a]))=(Nat.beq a c||fI xs c)
  rw[mK,i6 c xs]
theorem fX {c:Nat}:∀ {xs:Nm},fI xs c=decide (c∈xs)
 | []=>rfl
 |a::xs=>by
  show(Nat.beq a c||fI xs c)=_
  rw[fX (xs:=xs),q0,Bool.eq_iff_iff,Bool.or_eq_true,decide_eq_true_eq,decide_eq_true_eq,decide_eq_true_eq,List.mem_cons]
  exact⟨λh=>h.imp Eq.symm id,λh=>h.imp Eq.symm id⟩
theorem GO (row:Nm)(c:Nat):Txt.contains (st row) (st [c])=fI row c:=by
 rw[fX]
 exact found_one (st row) c
theorem LA (row:Nm)(c:Nat):eO [c] row=fI row c:=GO row c
theorem sH (c:Nat):bF c=fI aAv c:=i6 c aAv
theorem w4 (a b c:Nat):jH a b c=fI [a,b] c:=i6 c [a,b]
noncomputable def Qw:Nm:=(List.range 26).map (97+·)++(List.range 26).map (65+·)
theorem GP (c:Nat):fM c=fI Qw c:=i6 c Qw
noncomputable def ZE (hex:Bool):Nm:=bif hex then j9 else lM
theorem dG (hex:Bool)(c:Nat):aZ hex c=fI (ZE hex) c:=by
 cases hex with
 |true=>exact(i6 c j9)
 |false=>exact(i6 c lM)
theorem LC (c:Nat):gP c=fI aA0 c:=GO _ c
theorem Mw (c:Nat):fI o9 c=FF (some c):=by
 rcases Nat.lt_or_ge c 160 with h|h
 ·exact(by decide+kernel:∀ c,c<160→fI o9 c=FF (some c)) c h
 ·show _=(fM c||(aZ false c||nb [c] [61]))
  rw[GP,dG,mK,lQ (by rfl) h,lQ (by rfl) h,lQ (by rfl) h,dO (by lia)];rfl
end
section
theorem oY {b:Nat}:∀ (x:Nm) (n m:Nat) (y:Nm),hL b n x=some m→hL b n (x++y)=hL b m y
 | [],n,m,y,h=>by cases h;rfl
 |c::x,n,m,y,h=>by
  have h:(match tF b c with|some d=>hL b (n*b+d) x|none=>none)=some m:=h
  show(match tF b c with|some d=>hL b (n*b+d) (x++y)|none=>none)=_
  cases e:tF b c with
  |none=>rw[e]at h;cases h
  |some d=>rw[e]at h;exact oY x _ m y h
theorem w5 {b c d:Nat}(h:tF b c=some d)(n:Nat):hL b n [c]=some (n*b+d):=by
 show(match tF b c with|some d=>hL b (n*b+d) [] |none=>none)=_
 rw[h];rfl
theorem GS:∀ d,d<10→tF 10 (48+d)=some d∧fI lM (48+d)=true:=by decide+kernel
theorem WQ:∀ d,d<16→tF 16 (jD d)=some d∧fI j9 (jD d)=true:=by decide+kernel
structure Dgs (hex:Bool) (x:Nm) (c:Nat):Prop where
 num:fL (Md hex) x=some c
 all:∀ a∈x,aZ hex a=true
 ne:x≠[]
 len:x.length≤100
theorem zX:∀ (f c:Nat),c<10 ^ f→hL 10 0 (bJ (c:Int))=some c∧(∀ a∈bJ (c:Int),aZ false a=true)∧bJ (c:Int)≠[]
 |0,c,h=>by
  obtain rfl:c=0:=Nat.lt_one_iff.mp h
  rw[mX (by decide)]
  exact⟨rfl,λa m=>by rw[List.mem_singleton.mp m,dG];rfl,λq=>by cases q⟩
 |f+1,c,h=>by
  rcases Nat.lt_or_ge c 10 with q|q
  ·rw[mX q]
   exact⟨(w5 (GS c q).1 0).trans (by rw[Nat.zero_mul,Nat.zero_add]),λa m=>by rw[List.mem_singleton.mp m,dG];exact(GS c q).2,λq=>by cases q⟩
  ·rw[zV q]
   obtain⟨h1,h2,h3⟩:=zX f (c/10) (Nat.div_lt_of_lt_mul (by rw[Nat.pow_succ]at h;lia))
   have k:=GS (c%10) (Nat.mod_lt _ (by decide))
   refine⟨by rw[oY _ _ _ _ h1,w5 k.1,Nat.div_add_mod' c 10],λa m=>?_,λq=>h3 (List.append_eq_nil_iff.mp q).1⟩
   rcases List.mem_append.mp m with m|m
   ·exact h2 a m
   ·rw[List.mem_singleton.mp m,dG];exact k.2
theorem zY {c:Nat}(h:c≤1114111):Dgs false (bJ (c:Int)) c:=
 have q:=zX 7 c (Nat.lt_of_le_of_lt h (by decide))
 ⟨q.1,q.2.1,q.2.2,A5 (c8 h) (by decide)⟩
theorem zZ:∀ (f c:Nat) (row:Nm),c<16 ^ f→∃ x,dR f c row=x++row∧hL 16 0 x=some c∧(∀ a∈x,aZ true a=true)
 |0,c,row,h=>by
  obtain rfl:c=0:=Nat.lt_one_iff.mp h
  exact⟨[],rfl,rfl,λa m=>by cases m⟩
 |f+1,c,row,h=>by
  show ∃ x,(bif Nat.beq c 0 then row else dR f (c/16) ([jD (c%16)]++row))=x++row∧_
  cases e:Nat.beq c 0 with
  |true=>
   obtain rfl:=B0 e
   exact⟨[],rfl,rfl,λa m=>by cases m⟩
  |false=>
   obtain⟨x,h1,h2,h3⟩:=zZ f (c/16) ([jD (c%16)]++row) (Nat.div_lt_of_lt_mul (by rw[Nat.pow_succ]at h;lia))
   have k:=WQ (c%16) (Nat.mod_lt _ (by decide))
   refine⟨x++[jD (c%16)],h1.trans (B2 ..).symm,by rw[oY _ _ _ _ h2,w5 k.1,Nat.div_add_mod' c 16],λa m=>?_⟩
   rcases List.mem_append.mp m with m|m
   ·exact h3 a m
   ·rw[List.mem_singleton.mp m,dG];exact k.2
theorem LD {c:Nat}(h:c≤1114111)(h0:c≠0):Dgs true (dR 6 c []) c∧Dgs true (48::48::dR 6 c []) c:=by
 obtain⟨x,e,h1,h2⟩:=zZ 6 c [] (Nat.lt_of_le_of_lt h (by decide))
 have l:=kC 6 c []
 rw[B1]at e
 rw[e]at l ⊢
 have d0:aZ true 48=true:=by rw[dG];rfl
 have l:x.length≤6:=l
 exact⟨⟨h1,h2,λq=>h0 (by rw[q]at h1;exact(A9 h1).symm),(by lia)⟩,⟨h1,λa m=>by
  rcases List.mem_cons.mp m with rfl|m
  ·exact d0
  ·rcases List.mem_cons.mp m with rfl|m
   ·exact d0
   ·exact h2 a m,(λq=>by cases q),(by show x.length+1+1≤100;lia)⟩⟩
noncomputable def GU (c:Nat):Bool:=HJ c&& !Nat.beq c 13
theorem z0 {hex:Bool}{x y:Nm}{c:Nat}(h:Dgs hex x c)(ok:GU c=true)(hy:∀ a t,y=a::t→aZ hex a=false):oH hex (x++y)=some ((lK y,[c]),oD y):=by
 have tw:=wC (p:=aZ hex) (a:=x) (b:=y) h.all
 have ty:y.takeWhile (aZ hex)=[]∧y.dropWhile (aZ hex)=y:=by
  cases y with
  |nil=>exact⟨rfl,rfl⟩
  |cons a t=>
   have q:=hy a t rfl
   exact⟨List.takeWhile_cons_of_neg (by rw[q];exact A8),List.dropWhile_cons_of_neg (by rw[q];exact A8)⟩
 rw[ty.1,ty.2,B1]at tw
 have ok:=A0 ok
 unfold oH zE
 rw[tw.1,tw.2,h.num]
 show((bif HJ c&&(!Nat.beq c 13&&Nat.ble x.length 640)then some c else none).map λv=>((lK y,[v]),oD y))=_
 rw[ok.1,ok.2,A4 (A5 h.len (by decide))]
 rfl
theorem LE {p:Nat}(hp:p<5):eL (kM p) 35=false:=by
 have q:((List.range 5).all λp=> !eL (kM p) 35)=true:=by kernel_rfl
 exact fQ (List.all_eq_true.mp q p (List.mem_range.mpr hp))
section
variable {p:Nat}(hp:p<5){x y:Nm}{c:Nat}
include hp
theorem w6 (l:Nm):c7 (kO p) (kM p) (35::l)=oI l:=by
 show(bif eL (kM p) 35 then _ else bif nb [35] [35]then oI l else _)=_
 rw[LE hp];rfl
theorem z9 (h:Dgs false x c)(ok:GU c=true)(hy:∀ a t,y=a::t→aZ false a=false):c7 (kO p) (kM p) ((35::x)++y)=some ((lK y,[c]),oD y):=by
 show c7 _ _ (35::(x++y))=_
 rw[w6 hp,← z0 h ok hy]
 cases x with
 |nil=>exact absurd rfl h.ne
 |cons d x=>
  have q:=h.all d (.head _)
  have q2:jH 120 88 d=false:=by
   rw[w4]
   rw[dG,fX,decide_eq_true_eq]at q
   exact(by decide+kernel:∀ d∈lM,fI [120,88] d=false) d q
  show(bif jH 120 88 d then _ else bif aZ false d then oH false (d::(x++y))else _)=_
  rw[q,q2];rfl
theorem AA {d:Nat}(hd:fI [120,88] d=true)(h:Dgs true x c)(ok:GU c=true)(hy:∀ a t,y=a::t→aZ true a=false):c7 (kO p) (kM p) ((35::d::x)++y)=some ((lK y,[c]),oD y):=by
 show c7 _ _ (35::d::(x++y))=_
 rw[w6 hp,← z0 h ok hy]
 show(bif jH 120 88 d then FI d (x++y)else _)=_
 rw[w4,hd]
 cases x with
 |nil=>exact absurd rfl h.ne
 |cons e x=>
  show(bif aZ true e then oH true (e::(x++y))else _)=_
  rw[h.all e (.head _)];rfl
theorem AB {w:Nm}{row:Nm}(ht:((List.range 5).all λp=>match bT p with| []=>true|c::_=> !fI row c)=true)(h:eO (w.take 1) row=false):∀ a t,w++bT p=a::t→fI row a=false:=by
 intro a t e
 cases w with
 |nil=>
  have q:=List.all_eq_true.mp ht p (List.mem_range.mpr hp)
  rw[show bT p=a::t from e]at q
  exact fQ q
 |cons b w=>
  cases e
  exact(LA row a).symm.trans h
end
end
section
theorem GV:∀ {x k:Nm},pA x k=true→x <+:k
 | [],_,_=>List.nil_prefix
 |_::_,[],h=>(Bool.noConfusion h:False).elim
 |a::x,b::k,h=>by
  obtain⟨rfl,h2⟩:=rQ h
  exact List.cons_prefix_cons.mpr ⟨rfl,GV h2⟩
theorem w7:∀ {x k:Nm},x <+:k→pA x k=true
 | [],_,_=>rfl
 |_::_,[],h=>absurd (List.prefix_nil.mp h) (λq=>by cases q)
 |a::x,b::k,h=>by
  obtain⟨rfl,h2⟩:=List.cons_prefix_cons.mp h
  exact Eh (w7 h2)
theorem oZ {x:Nm}(h:x∈aS):aO x aS=true:=List.all_eq_true.mp oN x h
theorem LF {x k:Nm}(m:k∈aS)(h:x <+:k):eB x=true:=List.any_eq_true.mpr ⟨k,eZ (List.all_eq_true.mp Ek k m),w7 h⟩
theorem LH {x:Nm}(h:eB x=true):∃ k∈aS,x <+:k:=by
 obtain⟨k,m,q⟩:=List.any_eq_true.mp h
 exact⟨k,eZ (List.all_eq_true.mp PT k m),GV q⟩
noncomputable def uM:Nm:=59::(lM++Qw)
theorem LI:(aS.all λk=>k.all (fI uM))=true:=by kernel_rfl
theorem w8 {k:Nm}(m:k∈aS){c:Nat}(h:c∈k):fI uM c=true:=List.all_eq_true.mp (List.all_eq_true.mp LI k m) c h
theorem w9 {p c:Nat}(hp:p<5)(h:fI uM c=true):jJ p c=true:=by
 rw[fX,decide_eq_true_eq]at h
 exact(by decide+kernel:∀ p,p<5→∀ c∈uM,jJ p c=true) p hp c h
theorem GW:(aS.all λa=>aS.all λb=> !(nb [cA a] [59]&&pA a b)||nb a b)=true:=by kernel_rfl
theorem LJ {a b:Nm}(ma:a∈aS)(mb:b∈aS)(h:nb [cA a] [59]=true)(q:a <+:b):a=b:=by
 have w:=List.all_eq_true.mp (List.all_eq_true.mp GW a ma) b mb
 rw[h,w7 q]at w
 exact b9 w
theorem sI {a b q:Nm}(ha:a <+:q)(hb:b <+:q)(h:a.length≤b.length):a <+:b:=List.prefix_of_prefix_length_le ha hb h
theorem GX {a b q:Nm}(ha:a <+:q)(hb:b <+:q)(h1:a.length≤b.length)(h2:b.length≤a.length):a=b:=(sI ha hb h1).eq_of_length (Nat.le_antisymm h1 h2)
theorem kH {k x:Nm}(h:k <+:x):x.take k.length=k:=(List.prefix_iff_eq_take.mp h).symm
theorem iL {x p:Nm}:∀ {n:Nat},lJ x n=some p→(p∈aS∧p <+:x)∧∀ j,j<n→x.take j∈aS→(x.take j).length≤p.length
 |0,h=>by cases h
 |n+1,h=>by
  have h:(bif aO (x.take n) aS then some (x.take n)else lJ x n)=some p:=h
  cases e:aO (x.take n) aS with
  |true=>
   rw[e]at h
   obtain rfl:=A9 h
   exact⟨⟨eZ e,List.take_prefix ..⟩,λj hj _=>by rw[List.length_take,List.length_take];lia⟩
  |false=>
   rw[e]at h
   obtain⟨h1,h2⟩:=iL h
   refine⟨h1,λj hj m=>?_⟩
   rcases Nat.lt_or_ge j n with q|q
   ·exact h2 j q m
   ·obtain rfl:j=n:=by lia
    rw[oZ m]at e
    cases e
theorem qP {x:Nm}:∀ {n:Nat},lJ x n=none→∀ j,j<n→x.take j ∉ aS
 |0,_=>λj hj=>absurd hj (Nat.not_lt_zero j)
 |n+1,h=>by
  have h:(bif aO (x.take n) aS then some (x.take n)else lJ x n)=none:=h
  cases e:aO (x.take n) aS with
  |true=>rw[e]at h;cases h
  |false=>
   rw[e]at h
   intro j hj m
   rcases Nat.lt_or_ge j n with q|q
   ·exact qP h j q m
   ·obtain rfl:j=n:=by lia
    rw[oZ m]at e
    cases e
theorem xA {x p:Nm}(m:p∈aS)(h:p <+:x)(top:∀ k∈aS,k <+:x→k.length≤p.length):y9 x=some p:=by
 cases e:y9 x with
 |none=>exact absurd (show x.take p.length∈aS by rw[kH h];exact m) (qP e p.length (Nat.lt_succ_of_le h.length_le))
 |some q=>
  obtain⟨h1,h2⟩:=iL e
  have w:=h2 p.length (Nat.lt_succ_of_le h.length_le) (by rw[kH h];exact m)
  rw[kH h]at w
  exact congrArg some (GX h1.2 h (top q h1.1 h1.2) w)
theorem Qx {x:Nm}(top:∀ k∈aS,¬ k <+:x):y9 x=none:=by
 cases e:y9 x with
 |none=>rfl
 |some q=>exact absurd (iL e).1.2 (top q (iL e).1.1)
theorem uO {rest:Nm}:∀ (xs:List Nm) (b:Nm),(∀ k∈xs,k∈aS)→(b=[]∨(b∈aS∧b <+:rest))→
  (xs.foldl (qJ rest) b=[]∨(xs.foldl (qJ rest) b∈aS∧xs.foldl (qJ rest) b <+:rest))∧b.length≤(xs.foldl (qJ rest) b).length∧∀ k∈xs,k <+:rest→k.length≤(xs.foldl (qJ rest) b).length
 | [],b,_,hb=>⟨hb,A7 _,λk m=>by cases m⟩
 |x::xs,b,hm,hb=>by
  have hb':(qJ rest b x=[]∨(qJ rest b x∈aS∧qJ rest b x <+:rest))∧b.length≤(qJ rest b x).length∧(x <+:rest→x.length≤(qJ rest b x).length):=by
   unfold qJ
   cases e1:nb (rest.take x.length) x with
   |false=>exact⟨hb,A7 _,λh=>by rw[kH h,eW]at e1;cases e1⟩
   |true=>
    cases e2:Nat.blt b.length x.length with
    |true=>exact⟨.inr ⟨hm x (.head _),b9 e1▸List.take_prefix ..⟩,Nat.le_of_lt (A3 e2),λ_=>A7 _⟩
    |false=>exact⟨hb,A7 _,λ_=>Nat.le_of_not_lt λq=>A8 (e2.symm.trans (A4 q))⟩
  obtain⟨h1,h2,h3⟩:=hb'
  obtain⟨r1,r2,r3⟩:=uO xs (qJ rest b x) (λk m=>hm k (.tail _ m)) h1
  refine⟨r1,A5 h2 r2,λk m q=>?_⟩
  rcases List.mem_cons.mp m with rfl|m
  ·exact A5 (h3 q) r2
  ·exact r3 k m q
theorem sJ (w:Nm):(cG w=[]∨(cG w∈aS∧cG w <+:w))∧∀ k∈aS,k <+:w→k.length≤(cG w).length:=
 have q:=uO (rest:=w) aS [] (λ_ m=>m) (.inl rfl)
 ⟨q.1,q.2.2⟩
theorem GZ {k:Nm}(m:k∈aS):k≠[]:=(rU (oZ m)).1
theorem Ga:∀ p l:Nm,(mx p l).1++(mx p l).2=p++l
 |p,[]=>rfl
 |p,c::l=>by
  show(bif eB (p++[c])then mx (p++[c]) l else(p,c::l)).1++(bif eB (p++[c])then mx (p++[c]) l else(p,c::l)).2=_
  cases eB (p++[c])with
  |true=>exact(Ga (p++[c]) l).trans (B2 ..)
  |false=>rfl
theorem Gb:∀ p l:Nm,(mx p l).1=p∨eB (mx p l).1=true
 |p,[]=>.inl rfl
 |p,c::l=>by
  show(bif eB (p++[c])then mx (p++[c]) l else(p,c::l)).1=p∨eB (bif eB (p++[c])then mx (p++[c]) l else(p,c::l)).1=true
  cases e:eB (p++[c])with
  |true=>exact .inr ((Gb (p++[c]) l).elim (λq=>(congrArg eB q).trans e) id)
  |false=>exact .inl rfl
theorem Gd:∀ p l:Nm,p <+:(mx p l).1
 |p,[]=>List.prefix_refl _
 |p,c::l=>by
  show p <+:(bif eB (p++[c])then mx (p++[c]) l else(p,c::l)).1
  cases eB (p++[c])with
  |true=>exact(List.prefix_append p [c]).trans (Gd (p++[c]) l)
  |false=>exact List.prefix_refl _
theorem Ge:∀ (s p l:Nm),p++s∈aS→s <+:l→p++s <+:(mx p l).1
 | [],p,l,_,_=>by rw[B1];exact Gd p l
 |c::s,p,[],_,h=>absurd (List.prefix_nil.mp h) (λq=>by cases q)
 |c::s,p,d::l,m,h=>by
  obtain⟨rfl,h2⟩:=List.cons_prefix_cons.mp h
  have e:p++c::s=(p++[c])++s:=by rw[B2];rfl
  rw[e]at m ⊢
  show _ <+:(bif eB (p++[c])then mx (p++[c]) l else(p,c::l)).1
  rw[LF m (List.prefix_append ..)]
  exact Ge s (p++[c]) l m h2
structure Mx (l q y:Nm):Prop where
 app:q++y=l
 key:∀ k∈aS,k <+:l→k <+:q
 pre:∀ k,k <+:q→k <+:l
 has:q=[]∨∃ k∈aS,q <+:k
theorem My (l:Nm):Mx l (mx [] l).1 (mx [] l).2:=
 have a:(mx [] l).1++(mx [] l).2=l:=Ga [] l
 ⟨a,λk m h=>Ge k [] l m h,λk h=>h.trans ⟨_,a⟩,(Gb [] l).imp id LH⟩
theorem Mx.chars {l q y:Nm}(M:Mx l q y):∀ c∈q,fI uM c=true:=by
 intro c m
 rcases M.has with rfl|⟨k,mk,h⟩
 ·cases m
 ·exact w8 mk (h.subset m)
theorem xB {p:Nat}(hp:p<5){k w:Nm}(m:k∈aS)(h:k <+:w++bT p):k <+:w:=by
 rcases Nat.le_total k.length w.length with q|q
 ·exact sI h (List.prefix_append ..) q
 ·obtain⟨s,rfl⟩:=sI (List.prefix_append w (bT p)) h q
  cases s with
  |nil=>rw[B1];exact List.prefix_refl _
  |cons c s=>
   have h2:=(List.prefix_append_right_inj w).mp h
   have kc:=w8 m (c:=c) (List.mem_append_right _ (.head _))
   cases e:bT p with
   |nil=>rw[e]at h2;exact absurd (List.prefix_nil.mp h2) (λq=>by cases q)
   |cons d t=>
    rw[e]at h2
    obtain⟨rfl,_⟩:=List.cons_prefix_cons.mp h2
    have:=(uL hp e).1
    rw[w9 hp kc]at this
    cases this
end
section
theorem bR {xs:Nm}{c a:Nat}(h:fI xs c=false)(m:a∈xs):c≠a:=λe=>by
 rw[fX,decide_eq_false_iff_not,e]at h
 exact h m
theorem qQ {xs:Nm}{c:Nat}(h:∀ a∈xs,c≠a):fI xs c=false:=by
 rw[fX,decide_eq_false_iff_not]
 exact λm=>h c m rfl
theorem LK {p:Nat}(hp:p<5):p=0∨p=1∨p=2∨p=3∨p=4:=by lia
section
variable {p:Nat}(hp:p<5){w g u l:Nm}{e es:List Nm}{n:Int}{c f:Nat}
include hp
theorem o4 {R:Nm}(ok:GU c=true)(hc:c≤1114111)(s:Sem p R g e):Sem p (b7 c++R) (c::g) e:=by
 have h:=z9 hp (y:=59::R) (zY hc) ok (λa t q=>by cases q;rw[dG];rfl)
 have e1:b7 c++R=38::((35::bJ c)++59::R):=by
  unfold b7
  rw[B2,B2]
  rfl
 rw[e1]
 exact .amp (r:=R) (es:=[]) (x:=[c]) h (by rw[A2];show R.length≤_+(R.length+1);lia) s
theorem kJ {R:Nm}(hu:Uok u)(ok:∀ c∈u,GU c=true)(s:Sem p R g e):Sem p (c9 u++R) (u++g) ([]++e):=by
 cases hu with
 | @one c hc=>
  show Sem p ((b7 c++[])++R) (c::g) e
  rw[B1]
  exact o4 hp (ok c (.head _)) hc s
 |two=>
  show Sem p ((b7 61++(b7 8421++[]))++R) (61::8421::g) e
  rw[B1,B2]
  exact o4 hp (by kernel_rfl) (by decide) (o4 hp (by kernel_rfl) (by decide) s)
theorem LL:oI (bT p)=some ((([Fh]:List Nm).map Tok.err,[38,35]),bT p):=by
 rcases LK hp with rfl|rfl|rfl|rfl|rfl <;>kernel_rfl
theorem LM:c7 (kO p) (kM p) (bT p)=some ((([]:List Nm).map Tok.err,[38]),bT p):=by
 rcases LK hp with rfl|rfl|rfl|rfl|rfl <;>kernel_rfl
theorem BZ {t:Nm}{l:List Nm}(h:l9 (35::t)=some l):l=[Fh]∧∃ a y,t++bT p=a++y∧oI (t++bT p)=some ((([Fh]:List Nm).map Tok.err,38::35::a),y)∧∀ c∈a,fI [120,88] c=true:=by
 cases t with
 |nil=>
  have h:some [Fh]=some l:=h
  exact⟨(A9 h).symm,[],bT p,rfl,LL hp,λc m=>by cases m⟩
 |cons d t=>
  have h:(bif eO [d] [120,88]then(bif eO (t.take 1) j9 then none else some [Fh])else bif eO [d] lM then none else some [Fh])=some l:=h
  rw[LA,LA]at h
  show _∧∃ a y,d::(t++bT p)=a++y∧(bif jH 120 88 d then FI d (t++bT p)else bif aZ false d then oH false (d::(t++bT p))else some (([jC],[38,35]),d::(t++bT p)))=_∧_
  rw[w4,dG,show ZE false=lM from rfl]
  cases hx:fI [120,88] d with
  |true=>
   rw[hx]at h
   cases ha:eO (t.take 1) j9 with
   |true=>rw[ha]at h;cases h
   |false=>
    rw[ha]at h
    refine⟨(A9 h).symm,[d],t++bT p,rfl,?_,λc m=>by rw[List.mem_singleton.mp m];exact hx⟩
    have hn:=AB hp (w:=t) (row:=j9) (by kernel_rfl) ha
    show FI d (t++bT p)=_
    cases hT:t++bT p with
    |nil=>rfl
    |cons a T=>
     show(bif aZ true a then _ else _)=_
     rw[dG,show ZE true=j9 from rfl,hn a T hT];rfl
  |false=>
   rw[hx]at h
   cases hd:fI lM d with
   |true=>rw[hd]at h;cases h
   |false=>
    rw[hd]at h
    exact⟨(A9 h).symm,[],d::(t++bT p),rfl,rfl,λc m=>by cases m⟩
theorem Mz (h:WN p c=true)(h1:c≠38)(h2:c≠60):jJ p c=true:=by
 have h:=(A0 h).1
 rw[dO h1,dO h2,Bool.and_false,Bool.or_false]at h
 exact h
theorem LN (h:WN p c=true)(h2:fI aA0 c=false):eL (kM p) c=false:=by
 have hz:=fQ (A0 h).2
 have c60:c≠60:=bR h2 (by decide)
 have c38:c≠38:=bR h2 (by decide)
 have pl:=fQ (Mz hp h c38 c60)
 have sp:bF c=false:=by
  rw[sH]
  refine qQ λa m=>?_
  rcases(by decide:∀ a∈(aAv:Nm),a∈(aA0:Nm)∨a∈([0,9,12,13,47]:Nm)) a m with m|m
  ·exact bR h2 m
  ·exact bR hz m
 have me:bU (.str [c]) [.non,.str [60],.str [38]]=false:=by
  show(false||(nb [60] [c]||(nb [38] [c]||false)))=false
  rw[mK,mK,dO (Ne.symm c60),dO (Ne.symm c38)];rfl
 have al:uU (kM p) (.str [c])=false:=by
  rcases LK hp with rfl|rfl|rfl|rfl|rfl
  ·rfl
  ·rfl
  ·exact(mK 34 c).trans (dO (Ne.symm (bR pl (by decide+kernel:34∈fW.getD 2 []))))
  ·exact(mK 39 c).trans (dO (Ne.symm (bR pl (by decide+kernel:39∈fW.getD 3 []))))
  ·exact(mK 62 c).trans (dO (Ne.symm (bR pl (by decide+kernel:62∈fW.getD 4 []))))
 unfold eL
 rw[sp,me,al];rfl
theorem uP {T:Nm}(h1:eL (kM p) c=false)(h2:nb [c] [35]=false):c7 (kO p) (kM p) (c::T)=some (oG (kO p) (mx [] (c::T)).1 (mx [] (c::T)).2,(mx [] (c::T)).2):=by
 show(bif eL (kM p) c then _ else bif nb [c] [35]then _ else _)=_
 rw[h1,h2];rfl
theorem uQ {q y x:Nm}(h:c7 (kO p) (kM p) (q++y)=some ((es.map Tok.err,[38]++q),y))(ch:∀ c∈q,fI uM c=true)(s:Sem p (q++y) g e):Sem p (38::(q++y)) (38::g) (es++e):=by
 obtain⟨g',rfl,s'⟩:=kF hp (λc m=>w9 hp (ch c m)) s
 exact kG hp h s'
theorem Gf {q y:Nm}(M:Mx (w++bT p) q y)(h:nb (cG w) []=false):y9 q=some (cG w):=by
 obtain⟨b,top⟩:=sJ w
 rcases b with b|⟨m,b⟩
 ·rw[b]at h;cases h
 ·exact xA m (M.key _ m (b.trans (List.prefix_append ..))) λk mk hk=>top k mk (xB hp mk (M.pre k hk))
theorem Gg {q y:Nm}(M:Mx (w++bT p) q y)(h:nb (cG w) []=true):y9 q=none:=by
 obtain⟨_,top⟩:=sJ w
 rw[b9 h]at top
 exact Qx λk mk hk=>GZ mk (List.length_eq_zero_iff.mp (Nat.le_zero.mp (top k mk (xB hp mk (M.pre k hk)))))
theorem Gh {l:List Nm}(hw:wX p w=true)(h:fN w (kO p)=some l)(s:Sem p (w++bT p) g e):Sem p (38::(w++bT p)) (38::g) (l++e):=by
 cases w with
 |nil=>
  have h:some []=some l:=h
  obtain rfl:=A9 h
  exact .amp (x:=[38]) (LM hp) (A7 _) s
 |cons c t=>
  have h:(bif gP c then some []else bif nb [c] [35]then l9 (c::t)else kA (c::t) (kO p))=some l:=h
  have cl:=(A0 (List.all_eq_true.mp hw c (.head _))).2
  rw[LC,mK]at h
  cases he:fI aA0 c with
  |true=>
   rw[he]at h
   obtain rfl:=A9 h
   have st:eL (kM p) c=true:=by
    rw[fX,decide_eq_true_eq]at he
    exact(by decide+kernel:∀ p,p<5→∀ c∈(aA0:Nm),eL (kM p) c=true) p hp c he
   refine .amp (es:=[]) (x:=[38]) ?_ (A7 _) s
   show(bif eL (kM p) c then _ else _)=_
   rw[st];rfl
  |false=>
   rw[he]at h
   have sn:=LN hp cl he
   have h:(bif Nat.beq c 35 then l9 (c::t)else kA (c::t) (kO p))=some l:=h
   cases h35:Nat.beq c 35 with
   |true=>
    rw[h35]at h
    obtain rfl:=B0 h35
    obtain⟨rfl,a,y,e1,e2,ha⟩:=BZ hp h
    have s:Sem p ((35::a)++y) g e:=by
     show Sem p (35::(a++y)) g e
     rw[← e1]
     exact s
    obtain⟨g',rfl,s'⟩:=kF hp (λc m=>by
     have k:∀ p,p<5→∀ c∈([35,120,88]:Nm),jJ p c=true:=by decide+kernel
     rcases List.mem_cons.mp m with rfl|m
     ·exact k p hp _ (.head _)
     ·have q:=ha c m
      rw[fX,decide_eq_true_eq]at q
      exact k p hp c (.tail _ q)) s
    exact .amp (es:=[Fh]) (x:=38::35::a) ((w6 hp _).trans e2) (by show y.length≤(t++bT p).length+1;rw[e1,A2];lia) s'
   |false=>
    rw[h35]at h
    have h:kA (c::t) (kO p)=some l:=h
    have n35:nb [c] [35]=false:=(mK c 35).trans h35
    have M:=My (c::(t++bT p))
    have ew:=uP hp (T:=t++bT p) sn n35
    have M:Mx ((c::t)++bT p) _ _:=M
    show Sem p (38::(c::(t++bT p))) _ _
    have s:Sem p (c::(t++bT p)) g e:=s
    generalize (mx [] (c::(t++bT p))).1=q at *
    generalize (mx [] (c::(t++bT p))).2=y at *
    have app:q++y=c::(t++bT p):=M.app
    unfold kA at h
    cases hb:nb (cG (c::t)) []with
    |true=>
     rw[hb]at h
     obtain rfl:=A9 h
     have z:=Gg hp M hb
     unfold oG at ew
     rw[z]at ew
     rw[← app]at ew s ⊢
     exact uQ hp (es:=[Ys]) (x:=[]) ew M.chars s
    |false=>
     have z:=Gf hp M hb
     rw[hb]at h
     have h:(bif kO p&&(!nb [cA (cG (c::t))] [59]&&eO (wU (c::t) (cG (c::t)).length) o9)then some [Vb]else none)=some l:=h
     cases hc:kO p&&(!nb [cA (cG (c::t))] [59]&&eO (wU (c::t) (cG (c::t)).length) o9)with
     |false=>rw[hc]at h;cases h
     |true=>
      rw[hc]at h
      obtain rfl:=A9 h
      have q1:=A0 hc
      have q2:=A0 q1.2
      have fo:FF ((q++y)[(cG (c::t)).length]?)=true:=by
       rw[app]
       have a:=q2.2
       unfold wU at a
       cases hd:(c::t).drop (cG (c::t)).length with
       |nil=>rw[hd]at a;cases a
       |cons d r=>
        rw[hd]at a
        have a:eO [d] o9=true:=a
        rw[LA,Mw]at a
        have k:((c::t)++bT p)[(cG (c::t)).length]? =some d:=by
         have k1:=congrArg (·[0]?) hd
         rw[List.getElem?_drop]at k1
         have k1:(c::t)[(cG (c::t)).length]? =some d:=k1
         exact List.getElem?_append_left (List.getElem?_eq_some_iff.mp k1).1▸k1
        exact(congrArg FF k).trans a
      unfold oG at ew
      rw[z]at ew
      have ew:c7 (kO p) (kM p) (c::(t++bT p))=some (bif nb [cA (cG (c::t))] [59]then _ else bif kO p&&FF ((q++y)[(cG (c::t)).length]?)then([t8],[38]++q)else _,y):=ew
      rw[fQ q2.1,q1.1,fo]at ew
      rw[← app]at ew s ⊢
      exact uQ hp (es:=[Vb]) (x:=[]) (by rw[q1.1];exact ew) M.chars s
end
end
section
section
variable {p:Nat}(hp:p<5){w g u l:Nm}{e es:List Nm}{n:Int}{c f:Nat}
include hp
theorem WR (hw:wX p w=true):(w++bT p).head?≠some 47:=by
 cases w with
 |nil=>
  rcases LK hp with rfl|rfl|rfl|rfl|rfl <;>exact λq=>by cases q
 |cons c t=>
  intro q
  have q:some c=some 47:=q
  have cl:=(A0 (List.all_eq_true.mp hw c (.head _))).2
  exact bR (fQ (A0 cl).2) (by decide) (A9 q)
theorem AC (hw:wX p w=true):∀ u:Nm,(∀ c∈u,c≠38)→wX p u=true→Sem p (w++bT p) g e→Sem p (u++(w++bT p)) (u++g) e
 | [],_,_,s=>s
 |c::u,h,hu,s=>by
  have hu:=A0 (hu:(wB p c&&wX p u)=true)
  have ih:=AC hw u (λa m=>h a (.tail _ m)) hu.2 s
  have cl:=(A0 hu.1).2
  by_cases c60:c=60
  ·subst c60
   have k:=(A0 cl).1
   cases e1:jJ p 60 with
   |true=>exact .chr e1 ih
   |false=>
    rw[e1]at k
    have k:(Nat.beq p 1&&true)=true:=k
    have p1:=B0 (A0 k).1
    refine .lt p1 (show(u++(w++bT p)).head?≠some 47 from ?_) ih
    rw[← B2]
    exact WR hp (dS hu.2 hw)
  ·exact .chr (Mz hp cl (h c (.head _)) c60) ih
theorem Gj (hu:Uok u)(ok:∀ c∈u,GU c=true)(hown:nb u [38]=false→u.any (cR · p)=false→wX p u=true)(hw:wX p w=true)(s:Sem p (w++bT p) g e):
  Sem p ((fE u w p).1++(w++bT p)) (u++g) ((fE u w p).2++e):=by
 have sl:=kJ hp hu ok s
 unfold fE
 cases h1:nb u [38]with
 |true=>
  show Sem p ((match fN w (Nat.blt 1 p)with|some l=>([38],l)|none=>(c9 u,[]):Nm×List Nm).1++_) _ ((match fN w (Nat.blt 1 p)with|some l=>([38],l)|none=>(c9 u,[]):Nm×List Nm).2++e)
  cases hb:fN w (Nat.blt 1 p)with
  |none=>exact sl
  |some l=>
   obtain rfl:=b9 h1
   exact Gh hp hw hb s
 |false=>cases h2:u.any (cR · p)with
  |true=>exact sl
  |false=>
   refine AC hp hw u ?_ (hown h1 h2) s
   cases hu with
   |one _=>
    intro a m q
    rw[List.mem_singleton.mp m]at q
    rw[q]at h1
    cases h1
   |two=>exact by decide
theorem Ba (h:nb (bH (bN u) n) []=false):bH (bN u) n∈aS∧fH (bH (bN u) n)=u:=by
 have ne:bN u≠[]:=λq=>by rw[q]at h;cases h
 obtain⟨k,hk,lk⟩:=bM (Int.fdiv n 216) (bN u).length (List.length_pos_iff.mpr ne)
 have e1:bH (bN u) n=(bN u)[k]:=by
  unfold bH
  rw[hk]
  show((bN u)[k]?).getD []=_
  rw[List.getElem?_eq_getElem lk]
  rfl
 have m:=List.mem_filter.mp (e1▸List.getElem_mem lk:bH (bN u) n∈bN u)
 exact⟨m.1,b9 m.2⟩
theorem Qy (h:fI uM c=true):eL (kM p) c=false∧nb [c] [35]=false:=by
 rw[fX,decide_eq_true_eq]at h
 exact(by decide+kernel:∀ p,p<5→∀ c∈uM,eL (kM p) c=false∧nb [c] [35]=false) p hp c h
theorem Gk {x R:Nm}(m:x∈aS):∃ q y,Mx (x++R) q y∧c7 (kO p) (kM p) (x++R)=some (oG (kO p) q y,y):=by
 refine⟨_,_,My (x++R),?_⟩
 cases x with
 |nil=>exact absurd rfl (GZ m)
 |cons c x=>
  have k:=Qy hp (w8 m (.head _))
  exact uP hp (T:=x++R) k.1 k.2
theorem Gl (hu:Uok u)(ok:∀ c∈u,GU c=true)(s:Sem p (w++bT p) g e):
  Sem p ((fV u n w p).1++(w++bT p)) (u++g) ((fV u n w p).2++e):=by
 have sl:=kJ hp hu ok s
 have nv:=Ba hp (u:=u) (n:=n)
 unfold fV
 show Sem p ((bif nb (bH (bN u) n) []then _ else _:Nm×List Nm).1++_) _ ((bif nb (bH (bN u) n) []then _ else _:Nm×List Nm).2++e)
 generalize bH (bN u) n=x at *
 cases h0:nb x []with
 |true=>exact sl
 |false=>
  obtain⟨m,v⟩:=nv h0
  show Sem p ((bif nb [cA x] [59]then([38]++x,[])else _:Nm×List Nm).1++_) _ ((bif nb [cA x] [59]then _ else _:Nm×List Nm).2++e)
  obtain⟨q,y,M,ew⟩:=Gk hp (R:=w++bT p) m
  have xq:=M.key x m (List.prefix_append ..)
  have qx:=M.pre q (List.prefix_refl _)
  cases h1:nb [cA x] [59]with
  |true=>
   have e1:q=x:=by
    rcases M.has with rfl|⟨k,mk,hk⟩
    ·exact(List.prefix_nil.mp xq).symm
    ·obtain rfl:=LJ m mk h1 (xq.trans hk)
     exact GX hk (List.prefix_refl _) hk.length_le xq.length_le
   subst e1
   obtain rfl:=List.append_cancel_left M.app
   have z:=xA m (List.prefix_refl q) λk _ hk=>hk.length_le
   unfold oG at ew
   rw[z]at ew
   have ew:c7 (kO p) (kM p) (q++(w++bT p))=some (bif nb [cA q] [59]then([],fH q++q.drop q.length)else _,w++bT p):=ew
   rw[h1,v,List.drop_length,B1]at ew
   exact kG hp (es:=[]) ew s
  |false=>
   cases h2:nb (cG (x++w)) x&& !(Nat.blt 1 p&&eO (w.take 1) o9)with
   |false=>exact sl
   |true=>
    have h2:=A0 h2
    have hl:=b9 h2.1
    have z:y9 q=some x:=xA m xq λk mk hk=>by
     have k2:=M.pre k hk
     rw[← B2]at k2
     have k3:=(sJ (x++w)).2 k mk (xB hp mk k2)
     rw[hl]at k3
     exact k3
    obtain⟨t,rfl⟩:=xq
    have app:=M.app
    rw[B2]at app
    have a2:=List.append_cancel_left app
    have fo:(kO p&&FF (((x++t)++y)[x.length]?))=false:=by
     rw[M.app,List.getElem?_append_right (A7 _),Nat.sub_self]
     have h3:=fQ h2.2
     cases hf:Nat.blt 1 p with
     |false=>rw[show kO p=false from hf];rfl
     |true=>
      rw[hf]at h3
      have hn:=AB hp (w:=w) (row:=o9) (by kernel_rfl) h3
      cases hT:w++bT p with
      |nil=>exact Bool.and_false _
      |cons a T=>
       have k:=hn a T hT
       rw[Mw]at k
       show(_&&FF (some a))=false
       rw[k];exact Bool.and_false _
    unfold oG at ew
    rw[z]at ew
    have ew:c7 (kO p) (kM p) (x++(w++bT p))=some (bif nb [cA x] [59]then _ else bif kO p&&FF (((x++t)++y)[x.length]?)then _ else([t8],fH x++(x++t).drop x.length),y):=ew
    rw[h1,fo,v,List.drop_left,← a2]at ew
    rw[← a2]at s ⊢
    obtain⟨g',rfl,s'⟩:=kF hp (λc mc=>w9 hp (M.chars c (List.mem_append_right _ mc))) s
    have r:=kG hp (a:=x++t) (y:=y) (es:=[Vb]) (x:=u++t) (by rw[B2];exact ew) s'
    rw[B2,B2]at r
    exact r
theorem LO (hc:c≤1114111)(ok:GU c=true)(s:Sem p (w++bT p) g e):
  Sem p ((i5 f c w).1++(w++bT p)) ([c]++g) ((i5 f c w).2++e):=by
 have sl:=kJ hp (.one hc) (λa m=>by rw[List.mem_singleton.mp m];exact ok) s
 have c0:c≠0:=λq=>by rw[q]at ok;cases ok
 obtain⟨x1,x2⟩:=LD hc c0
 unfold i5
 cases Nat.beq f 6 with
 |true=>
  have h:=AA hp (d:=88) (by rfl) x2 ok (y:=59::(w++bT p)) (λa t q=>by cases q;rw[dG];rfl)
  show Sem p (((aAs++dR 6 c [])++[59])++(w++bT p)) _ _
  rw[B2,B2]
  exact .amp (r:=w++bT p) (es:=[]) (x:=[c]) h (by show(w++bT p).length≤([35,88,48,48]++(dR 6 c []++([59]++(w++bT p)))).length;simp only[A2];lia) s
 |false=>cases Nat.beq f 5 with
  |true=>
   show Sem p ((bif eO (w.take 1) (lM++[59])then(c9 [c],[])else _:Nm×List Nm).1++_) _ ((bif eO (w.take 1) (lM++[59])then(c9 [c],[])else _:Nm×List Nm).2++e)
   cases ha:eO (w.take 1) (lM++[59])with
   |true=>exact sl
   |false=>
    have hn:=AB hp (w:=w) (row:=lM++[59]) (by kernel_rfl) ha
    have h:=z9 hp (zY hc) ok (y:=w++bT p) (λa t q=>by rw[dG];exact qQ λb m=>bR (hn a t q) (List.mem_append_left _ m))
    show Sem p (([38,35]++bJ c)++(w++bT p)) _ _
    have en:lK (w++bT p)=[cO]∧oD (w++bT p)=w++bT p:=by
     cases hT:w++bT p with
     |nil=>exact⟨rfl,rfl⟩
     |cons a t=>
      have k:=bR (hn a t hT) (List.mem_append_right lM (.head _))
      show(bif nb [a] [59]then _ else _)=_∧(bif nb [a] [59]then _ else _)=_
      rw[mK,dO k]
      exact⟨rfl,rfl⟩
    rw[en.1,en.2]at h
    exact kG hp (a:=35::bJ c) (es:=[aJ]) (x:=[c]) h s
  |false=>
   show Sem p ((bif eO (w.take 1) (j9++[59])then(c9 [c],[])else _:Nm×List Nm).1++_) _ ((bif eO (w.take 1) (j9++[59])then(c9 [c],[])else _:Nm×List Nm).2++e)
   cases ha:eO (w.take 1) (j9++[59])with
   |true=>exact sl
   |false=>
    have hn:=AB hp (w:=w) (row:=j9++[59]) (by kernel_rfl) ha
    have h:=AA hp (d:=120) (by rfl) x1 ok (y:=w++bT p) (λa t q=>by rw[dG];exact qQ λb m=>bR (hn a t q) (List.mem_append_left _ m))
    show Sem p (([38,35]++([120]++dR 6 c []))++(w++bT p)) _ _
    have en:lK (w++bT p)=[cO]∧oD (w++bT p)=w++bT p:=by
     cases hT:w++bT p with
     |nil=>exact⟨rfl,rfl⟩
     |cons a t=>
      have k:=bR (hn a t hT) (List.mem_append_right j9 (.head _))
      show(bif nb [a] [59]then _ else _)=_∧(bif nb [a] [59]then _ else _)=_
      rw[mK,dO k]
      exact⟨rfl,rfl⟩
    rw[en.1,en.2]at h
    exact kG hp (a:=35::120::dR 6 c []) (es:=[aJ]) (x:=[c]) h s
theorem Gm (hu:Uok u)(ok:∀ c∈u,GU c=true)(hown:nb u [38]=false→u.any (cR · p)=false→wX p u=true)(hw:wX p w=true)(s:Sem p (w++bT p) g e):
  Sem p ((cH u n w p).1++(w++bT p)) (u++g) ((cH u n w p).2++e):=by
 unfold cH oP
 generalize (Int.fmod (Int.fdiv n 27) 8).toNat=f
 cases Nat.blt f 2 with
 |true=>exact Gj hp hu ok hown hw s
 |false=>cases Nat.blt f 5 with
  |true=>exact Gl hp hu ok s
  |false=>cases hu with
   |one hc=>exact LO hp hc (ok _ (.head _)) s
   |two=>exact kJ hp .two ok s
theorem Gn {x:Nm}(h:fP x=true):∀ c∈x,GU c=true:=λc m=>by
 have q:=List.all_eq_true.mp h c m
 unfold kD at q
 have q:=A0 q
 unfold GU
 rw[q.1,(A0 q.2).1];rfl
theorem AD:∀ ms:List Int,Sem p ((b8 p ms).1++bT p) (hV ms) (b8 p ms).2
 | []=>.nil
 |n::t=>by
  have s:=Gm hp (n:=n) (fO n) (Gn hp (qO n)) (Ms hp n) (GK hp t) (AD t)
  show Sem p (((cH (aY n) n (b8 p t).1 p).1++(b8 p t).1)++bT p) (aY n++hV t) ((cH (aY n) n (b8 p t).1 p).2++(b8 p t).2)
  rw[B2]
  exact s
end
end
section
theorem bB {st st':Nat}{ct ct':CT}{l r:Nm}{out q:List Tok}{k:Nat}(h:sp st ct l=some ⟨true,st',ct',out,r⟩)(sm:ct.smallB=true)(t:(KB ct ct').isSome=true)(h2:run k st' ct' r=some q):run (k+1) st ct l=some (out++q):=by
 show(match ct.smallB with|false=>none|true=>match sp st ct l with|none=>none|some z=>match(KB ct z.ct).isSome with|false=>none|true=>match z.more with|false=>uC l z|true=>(run k z.st z.ct z.rest).map (z.out++·))=_
 rw[sm,h]
 show(match(KB ct ct').isSome with|false=>none|true=>(run k st' ct' r).map (out++·))=_
 rw[t,h2]
 rfl
structure Tl (q:List Tok) (x:Nm) (e t:List Nm) (m:Nat):Prop where
 g:∀ a:Acc,(a.toks q).got=a.got++x
 e:∀ a:Acc,(a.toks q).fs=a.fs++e
 t:∀ a:Acc,(a.toks q).ts=a.ts++t
 l:dJ q=x.length
 n:q.length≤m
theorem Tl.nil:Tl [] [] [] [] 0:=⟨λa=>(B1 _).symm,λa=>(B1 _).symm,λa=>(B1 _).symm,rfl,A7 _⟩
theorem Tl.app {q q':List Tok}{g g':Nm}{e e' t t':List Nm}{n n':Nat}(h:Tl q g e t n)(k:Tl q' g' e' t' n'):Tl (q++q') (g++g') (e++e') (t++t') (n+n'):=
 ⟨λa=>by rw[j8,k.g,h.g,B2],λa=>by rw[j8,k.e,h.e,B2],λa=>by rw[j8,k.t,h.t,B2],by rw[lL,h.l,k.l,A2],by rw[A2];exact Nat.add_le_add h.n k.n⟩
theorem Tl.le {q:List Tok}{g:Nm}{e t:List Nm}{n n':Nat}(h:Tl q g e t n)(k:n≤n'):Tl q g e t n':=⟨h.g,h.e,h.t,h.l,A5 h.n k⟩
theorem Tl.c1 (x:Nm):Tl [.chr1 x] x [] [] 1:=⟨λa=>rfl,λa=>(B1 _).symm,λa=>(B1 _).symm,rfl,A7 _⟩
theorem Tl.c2 (x:Nm):Tl [.chr2 x] x [] [] 1:=⟨λa=>rfl,λa=>(B1 _).symm,λa=>(B1 _).symm,rfl,A7 _⟩
theorem Tl.er (x:Nm):Tl [.err x] [] [x] [] 1:=⟨λa=>(B1 _).symm,λa=>rfl,λa=>(B1 _).symm,rfl,A7 _⟩
theorem Tl.tg (x:Nm):Tl [.stag x] [] [] [x] 1:=⟨λa=>(B1 _).symm,λa=>(B1 _).symm,λa=>rfl,rfl,A7 _⟩
theorem Tl.sg (x:Nm):Tl [BI x] x [] [] 1:=by
 unfold BI
 cases fD x with
 |true=>exact .c2 x
 |false=>exact .c1 x
theorem Tl.ers:∀ es:List Nm,Tl (es.map Tok.err) [] es [] es.length
 | []=>.nil
 |x::es=>(Tl.app (.er x) (Tl.ers es)).le (Nat.le_of_eq (Nat.add_comm 1 _))
section
variable {p:Nat}(hp:p<5)
include hp
theorem lR {f:Nat→Bool}(hf:∀ c,f c=true→jJ p c=true):∀ {l g:Nm} {e:List Nm},Sem p l g e→∃ g',g=l.takeWhile f++g'∧Sem p (l.dropWhile f) g' e
 | [],g,e,s=>⟨g,rfl,s⟩
 |c::l,g,e,s=>by
  cases h:f c with
  |false=>
   have h':¬ f c=true:=by rw[h];exact A8
   rw[List.takeWhile_cons_of_neg h',List.dropWhile_cons_of_neg h']
   exact⟨g,rfl,s⟩
  |true=>
   obtain⟨g1,rfl,s1⟩:=GN hp (hf c h) s
   obtain⟨g2,rfl,s2⟩:=lR hf s1
   rw[List.takeWhile_cons_of_pos h,List.dropWhile_cons_of_pos h]
   exact⟨g2,rfl,s2⟩
end
theorem xC (f:Nat→Bool)(l:Nm):(l.dropWhile f).length≤l.length:=(List.dropWhile_sublist f).length_le
theorem xD (a b d c:Nat):dA (iZ a b d) false c= !fI [a,b,d] c:=by
 unfold dA iZ
 rw[show bU (.str [c]) [.str [a],.str [b],.str [d]]=fI [a,b,d] c from i6 c [a,b,d]]
 cases fI [a,b,d] c <;>rfl
theorem Qz (c:Nat):dA bF true c=fI aAv c:=by
 unfold dA
 rw[sH]
 cases fI aAv c <;>rfl
theorem WT (c:Nat):dA JZ false c=jJ 4 c:=by
 unfold dA JZ jJ
 show AU (bU (.str [c]) ((fW.getD 4 []).map λa=>D.str [a])) false=_
 rw[i6]
 cases fI (fW.getD 4 []) c <;>rfl
theorem WU {p c:Nat}(hp:p<2)(h:dA bF true c=true):jJ p c=true:=by
 rw[Qz,fX,decide_eq_true_eq]at h
 exact(by decide+kernel:∀ p,p<2→∀ c∈(aAv:Nm),jJ p c=true) p hp c h
theorem ZF {p c:Nat}(hp:p<2)(h:dA (iZ 38 60 0) false c=true):jJ p c=true:=by
 rw[xD]at h
 rcases(by lia:p=0∨p=1)with rfl|rfl <;>exact h
theorem hX {c a:Nat}(h:c≠a):nb [c] [a]=false:=(mK c a).trans (dO h)
theorem two {p:Nat}(hp:p<2):p=0∨p=1:=by lia
theorem RC {p c:Nat}{d:D}{l:Nm}(hp:p<2)(h:jJ p c=true):sp (jI p) (.dead true d) (c::l)=some (bif bF c then⟨true,jI p,.dead true d,[.chr2 ([c]++l.takeWhile (dA bF true))],l.dropWhile (dA bF true)⟩else⟨true,jI p,.dead true d,[.chr1 ([c]++l.takeWhile (dA (iZ 38 60 0) false))],l.dropWhile (dA (iZ 38 60 0) false)⟩):=by
 have h':=fQ h
 rcases two hp with rfl|rfl
 ·show(bif nb [c] [38]then _ else bif nb [c] [60]then none else bif nb [c] [0]then none else bif bF c then _ else _:Option Res)=_
  rw[hX (bR h' (by decide:38∈_)),hX (bR h' (by decide:60∈_)),hX (bR h' (by decide:0∈_))]
  cases bF c <;>rfl
 ·show(bif nb [c] [38]then _ else bif nb [c] [60]then _ else bif nb [c] [0]then none else bif bF c then _ else _:Option Res)=_
  rw[hX (bR h' (by decide:38∈_)),hX (bR h' (by decide:60∈_)),hX (bR h' (by decide:0∈_))]
  cases bF c <;>rfl
noncomputable abbrev Go (p:Nat)(d:D)(l g:Nm)(e:List Nm):Prop:=∃ k q,run k (jI p) (.dead true d) l=some q∧Tl q g e [] (l.length+e.length)
theorem Gp {p c:Nat}{d:D}{l g:Nm}{e:List Nm}(hp:p<2)(f:Nat→Bool)(t:Nm→Tok)(hf:∀ c,f c=true→jJ p c=true)(ht:∀ x,Tl [t x] x [] [] 1)(hs:sp (jI p) (.dead true d) (c::l)=some ⟨true,jI p,.dead true d,[t ([c]++l.takeWhile f)],l.dropWhile f⟩)
  (s:Sem p l g e)(ih:∀ l' g',l'.length≤l.length→Sem p l' g' e→Go p d l' g' e):Go p d (c::l) (c::g) e:=
 (lR (A6 hp (by decide)) hf s).elim λg' q=>(ih _ g' (xC f l) q.2).elim λk r=>r.elim λq' r=>⟨k+1,_,bB hs rfl rfl r.1,by
  rw[q.1]
  exact(Tl.app (ht _) r.2).le (by have:=xC f l;rw[B3];lia)⟩
theorem LP {p c:Nat}{d:D}{l g:Nm}{e:List Nm}(hp:p<2)(h:jJ p c=true)(s:Sem p l g e)
  (ih:∀ l' g',l'.length≤l.length→Sem p l' g' e→Go p d l' g' e):Go p d (c::l) (c::g) e:=by
 have q:=RC (d:=d) (l:=l) hp h
 cases hs:bF c with
 |true=>
  rw[hs]at q
  exact Gp hp (dA bF true) .chr2 (λc=>WU hp) .c2 q s ih
 |false=>
  rw[hs]at q
  exact Gp hp (dA (iZ 38 60 0) false) .chr1 (λc=>ZF hp) .c1 q s ih
theorem RF {d:D}{l g:Nm}{e:List Nm}(hn:l.head?≠some 47)(r:Go 1 d l g e):Go 1 d (60::l) (60::g) e:=by
 obtain⟨k,q,r,T⟩:=r
 have s1:sp 318 (.dead true d) (60::l)=some ⟨true,374,.dead true d,[],l⟩:=rfl
 have s2:sp 374 (.dead true d) l=some ⟨true,318,.dead true d,[.chr1 [60]],l⟩:=by
  cases l with
  |nil=>rfl
  |cons c t=>
   show(bif nb [c] [47]then none else _)=_
   rw[hX (λe=>hn (congrArg some e))]
   rfl
 exact⟨k+1+1,_,bB s1 rfl rfl (bB s2 rfl rfl r),(Tl.app .nil (Tl.app (.c1 [60]) T)).le (by rw[B3];lia)⟩
theorem RH {p:Nat}{d:D}{l r x:Nm}{es:List Nm}(hp:p<2)(h:c7 (kO p) (kM p) l=some ((es.map Tok.err,x),r)):∃ st,sp (jI p) (.dead true d) (38::l)=some ⟨true,st,.dead true d,[],l⟩∧sp st (.dead true d) l=some ⟨true,jI p,.dead true d,es.map Tok.err++[BI x],r⟩:=by
 rcases two hp with rfl|rfl
 ·exact⟨311,rfl,by show(c7 false .non l).map _=_;rw[show c7 false .non l=_ from h];rfl⟩
 ·exact⟨325,rfl,by show(c7 false .non l).map _=_;rw[show c7 false .non l=_ from h];rfl⟩
theorem RI {p:Nat}{d:D}{l r x g:Nm}{es e:List Nm}(hp:p<2)(h:c7 (kO p) (kM p) l=some ((es.map Tok.err,x),r))(hr:r.length≤l.length)(s:Go p d r g e):Go p d (38::l) (x++g) (es++e):=
 (RH hp h).elim λ_ s12=>s.elim λk r=>r.elim λq r=>⟨k+1+1,_,bB s12.1 rfl rfl (bB s12.2 rfl rfl r.1),by
  have R:=Tl.app .nil (Tl.app (Tl.app (.ers es) (.sg x)) r.2)
  rw[B1]at R
  exact R.le (by rw[B3,A2];lia)⟩
theorem Gq {p:Nat}{d:D}(hp:p<2):Go p d [] [] []:=by
 rcases two hp with rfl|rfl <;>exact⟨1,[],by kernel_rfl,.nil⟩
theorem Gr {p:Nat}(hp:p<2):bT p=[]:=by rcases two hp with rfl|rfl <;>rfl
theorem LQ {p:Nat}{d:D}(hp:p<2):∀ (n:Nat) {l g:Nm} {e:List Nm},l.length≤n→Sem p l g e→Go p d l g e:=by
 intro n
 induction n with
 |zero=>
  intro l g e hl s
  rw[List.length_eq_zero_iff.mp (Nat.le_zero.mp hl),← Gr hp]at s ⊢
  rw[(zW (A6 hp (by decide)) s).1,(zW (A6 hp (by decide)) s).2,Gr hp]
  exact Gq hp
 |succ n ih=>
  intro l g e hl s
  cases s with
  |nil=>rw[Gr hp];exact Gq hp
  |chr h s=>exact LP hp h s λl' g' hl' s'=>ih (A5 hl' (Nat.le_of_succ_le_succ hl)) s'
  |lt h hn s=>subst h;exact RF hn (ih (Nat.le_of_succ_le_succ hl) s)
  |amp h hr s=>exact RI hp h hr (ih (A5 hr (Nat.le_of_succ_le_succ hl)) s)
noncomputable def WV (p:Nat):Nat:=bif Nat.beq p 2 then 563 else bif Nat.beq p 3 then 570 else 577
theorem ZG {v:Nm}(h:v.length≤1000):(CT.at_ v).smallB=true:=A4 h
theorem AE {v:Nm}:run 1 304 (.dead true (Tok.stag v).toD) []=some []:=by kernel_rfl
theorem LR {p:Nat}{g:Nm}{e:List Nm}(s:Sem p [] g e):bT p=[]:=
 Sem.casesOn (motive:=λx _ _ _=>x=[]→bT p=[]) s id (λ_ _ q=>absurd q (λq=>by cases q)) (λ_ _ _ q=>absurd q (λq=>by cases q)) (λ_ _ _ q=>absurd q (λq=>by cases q)) rfl
noncomputable abbrev LS (p:Nat)(l g:Nm)(e:List Nm)(v:Nm):Prop:=∃ k q,run k (WV p) (.at_ v) l=some q∧Tl q [] e [v++g] (1+e.length)
theorem WW {p:Nat}(hp:1<p)(h5:p<5):p=2∨p=3∨p=4:=by lia
theorem RJ {p:Nat}(hp:1<p)(h5:p<5){v:Nm}(hv:v.length≤1000):LS p (bT p) [] [] v:=by
 have sm:=ZG hv
 have f:run (1+1) 584 (.at_ v) [62]=some ([.stag v]++[]):=bB rfl sm rfl AE
 unfold LS
 rw[B1]
 rcases WW hp h5 with rfl|rfl|rfl
 ·exact⟨1+1+1,_,bB (out:=[]) rfl sm rfl f,.tg v⟩
 ·exact⟨1+1+1,_,bB (out:=[]) rfl sm rfl f,.tg v⟩
 ·exact⟨1+1,_,bB (out:=[.stag v]) rfl sm rfl AE,.tg v⟩
noncomputable def Gs (p:Nat):Nat→Bool:=bif Nat.beq p 2 then dA (iZ 34 38 0) false else bif Nat.beq p 3 then dA (iZ 39 38 0) false else dA JZ false
theorem LU {p:Nat}(hp:1<p)(h5:p<5)(c:Nat):Gs p c=jJ p c:=by
 rcases WW hp h5 with rfl|rfl|rfl
 ·exact xD 34 38 0 c
 ·exact xD 39 38 0 c
 ·exact WT c
theorem AF {c:Nat}(h:fI (fW.getD 4 []) c=false):bF c=false∧UT 34 39 61 60 96 c=false∧iZ 61 60 96 c=false:=by
 refine⟨?_,?_,?_⟩
 ·rw[sH]
  exact qQ λa m=>bR h ((by decide+kernel:∀ a∈(aAv:Nm),a∈fW.getD 4 []) a m)
 ·unfold UT
  rw[show bU (.str [c]) [.str [34],.str [39],.str [61],.str [60],.str [96]]=fI [34,39,61,60,96] c from i6 c [34,39,61,60,96]]
  exact qQ λa m=>bR h ((by decide+kernel:∀ a∈([34,39,61,60,96]:Nm),a∈fW.getD 4 []) a m)
 ·rw[show iZ 61 60 96 c=fI [61,60,96] c from i6 c [61,60,96]]
  exact qQ λa m=>bR h ((by decide+kernel:∀ a∈([61,60,96]:Nm),a∈fW.getD 4 []) a m)
theorem RK {p:Nat}(hp:1<p)(h5:p<5){v:Nm}{c:Nat}{l:Nm}(h:jJ p c=true):sp (WV p) (.at_ v) (c::l)=some ⟨true,WV p,.at_ (v++([c]++l.takeWhile (Gs p))),[],l.dropWhile (Gs p)⟩:=by
 have h:=fQ h
 rcases WW hp h5 with rfl|rfl|rfl
 ·show(bif nb [c] [38]then _ else bif nb [c] [34]then _ else bif nb [c] [38]then none else bif nb [c] [0]then none else _:Option Res)=_
  rw[hX (bR h (by decide+kernel:38∈fW.getD 2 [])),hX (bR h (by decide+kernel:34∈fW.getD 2 [])),hX (bR h (by decide+kernel:0∈fW.getD 2 []))]
  rfl
 ·show(bif nb [c] [38]then _ else bif nb [c] [39]then _ else bif nb [c] [38]then none else bif nb [c] [0]then none else _:Option Res)=_
  rw[hX (bR h (by decide+kernel:38∈fW.getD 3 [])),hX (bR h (by decide+kernel:39∈fW.getD 3 [])),hX (bR h (by decide+kernel:0∈fW.getD 3 []))]
  rfl
 ·show(bif nb [c] [38]then _ else bif bF c then none else bif nb [c] [38]then none else bif nb [c] [62]then _ else bif UT 34 39 61 60 96 c then none else bif nb [c] [0]then none else _:Option Res)=_
  rw[(AF h).1,(AF h).2.1,hX (bR h (by decide+kernel:38∈fW.getD 4 [])),hX (bR h (by decide+kernel:62∈fW.getD 4 [])),hX (bR h (by decide+kernel:0∈fW.getD 4 []))]
  rfl
theorem RM {p:Nat}(hp:1<p)(h5:p<5){v l r x:Nm}{es:List Nm}(h:c7 (kO p) (kM p) l=some ((es.map Tok.err,x),r)):sp (WV p) (.at_ v) (38::l)=some ⟨true,WV p,.at_ (v++x),es.map Tok.err,r⟩:=by
 rcases WW hp h5 with rfl|rfl|rfl
 ·show(c7 true (.str [34]) l).map _=_;rw[show c7 true (.str [34]) l=_ from h];rfl
 ·show(c7 true (.str [39]) l).map _=_;rw[show c7 true (.str [39]) l=_ from h];rfl
 ·show(c7 true (.str [62]) l).map _=_;rw[show c7 true (.str [62]) l=_ from h];rfl
theorem LV {p:Nat}(hp:1<p)(h5:p<5){l g:Nm}{e:List Nm}{c:Nat}{v:Nm}(h:jJ p c=true)(s:Sem p l g e)(hv:v.length+(g.length+1)≤1000)
  (ih:∀ {l' g':Nm},l'.length≤l.length→Sem p l' g' e→∀ v:Nm,v.length+g'.length≤1000→LS p l' g' e v):LS p (c::l) (c::g) e v:=
 (lR h5 (λc q=>(LU hp h5 c).symm.trans q) s).elim λg' q=>by
  rw[q.1,A2]at hv
  obtain⟨k,t,r,T⟩:=ih (xC (Gs p) l) q.2 (v++([c]++l.takeWhile (Gs p))) (by rw[A2,A2];show v.length+(1+_)+_≤_;lia)
  refine⟨k+1,_,bB (RK hp h5 h) (ZG (by lia)) rfl r,?_⟩
  rw[B2,B2,← q.1]at T
  exact T
theorem LW {p:Nat}(hp:1<p)(h5:p<5){l r x g v:Nm}{es e:List Nm}(h:c7 (kO p) (kM p) l=some ((es.map Tok.err,x),r))(hv:v.length≤1000)(s:LS p r g e (v++x)):LS p (38::l) (x++g) (es++e) v:=by
 obtain⟨k,q,rr,T⟩:=s
 refine⟨k+1,_,bB (RM hp h5 h) (ZG hv) rfl rr,?_⟩
 have R:=Tl.app (.ers es) T
 rw[B2]at R
 exact R.le (by rw[A2];lia)
theorem sK {p:Nat}(hp:1<p)(h5:p<5):∀ (n:Nat) {l g:Nm} {e:List Nm},l.length≤n→Sem p l g e→∀ v:Nm,v.length+g.length≤1000→LS p l g e v:=by
 intro n
 induction n with
 |zero=>
  intro l g e hl s v hv
  rw[List.length_eq_zero_iff.mp (Nat.le_zero.mp hl)]at s
  have tn:=LR s
  rcases WW hp h5 with rfl|rfl|rfl <;>cases tn
 |succ n ih=>
  intro l g e hl s v hv
  cases s with
  |nil=>exact RJ hp h5 (Nat.le_of_add_right_le hv)
  |chr h s=>exact LV hp h5 h s hv λhl' s' v hv=>ih (A5 hl' (Nat.le_of_succ_le_succ hl)) s' v hv
  |lt h=>exact absurd (h▸hp) (by decide)
  |amp h hr s=>
   rw[A2]at hv
   exact LW hp h5 h (by lia) (ih (A5 hr (Nat.le_of_succ_le_succ hl)) s _ (by rw[A2];lia))
theorem AG (p:Nat):∀ ms:List Int,(b8 p ms).2.length≤ms.length
 | []=>A7 _
 |n::t=>by
  have h:=AG p t
  have s:=(iK (n:=n) (rest:=(b8 p t).1) (p:=p) (fO n)).l
  show((cH (aY n) n (b8 p t).1 p).2++(b8 p t).2).length≤t.length+1
  rw[A2]
  lia
theorem RN {u:Nm}(h:Uok u):u≠[]:=by cases h <;>exact λq=>by cases q
theorem Tl.lim {q:List Tok}{x:Nm}{e t:List Nm}{m:Nat}(T:Tl q x e t m)(h1:x.length≤90000)(h2:m≤90000):Lim a0 q:=
 ⟨by show 0+dJ q≤_;rw[T.l];lia,by show 0+q.length≤_;have:=T.n;lia,by show 0+q.length≤_;have:=T.n;lia⟩
theorem xE {l:Nm}{k:Nat}{q:List Tok}(h:run k 556 (.at_ []) l=some q):run (k+1+1+1+1+1) 304 (.dead false .non) ([60,105,32,116,61]++l)=some q:=
 bB (out:=[]) rfl rfl rfl (bB (out:=[]) rfl rfl rfl (bB (out:=[]) rfl rfl rfl (bB (out:=[]) rfl rfl rfl (bB (out:=[]) rfl rfl rfl h))))
noncomputable abbrev XV (p:Nat)(l g:Nm)(e:List Nm):Prop:=∃ k q,run k (jI p) (.dead false .non) l=some q∧Tl q [] e [g] (1+e.length)
theorem WY {p:Nat}{w sg:Nm}{due:List Nm}(h:p=2∨p=3)(s:LS p (w++bT p) sg due []):XV p (eM p w) sg due:=by
 obtain⟨k,q,r,T⟩:=s
 rcases h with rfl|rfl
 ·exact⟨_,q,xE (bB (out:=[]) (l:=34::(w++bT 2)) rfl rfl rfl r),T⟩
 ·exact⟨_,q,xE (bB (out:=[]) (l:=39::(w++bT 3)) rfl rfl rfl r),T⟩
theorem RO {c:Nat}{l g:Nm}{due:List Nm}(h:jJ 4 c=true)(s:LS 4 l g due [c]):∃ k q,run k 556 (.at_ []) (c::l)=some q∧Tl q [] due [c::g] (1+due.length):=by
 obtain⟨k,q,r,T⟩:=s
 have h:=fQ h
 have nn:∀ a∈fW.getD 4 [],nb [c] [a]=false:=λa m=>hX (bR h m)
 have hs:sp 556 (.at_ []) (c::l)=some ⟨true,577,.at_ [c],[],l⟩:=by
  show(bif bF c then none else bif nb [c] [34]then _ else bif nb [c] [38]then _ else bif nb [c] [39]then _ else bif nb [c] [62]then none else bif nb [c] [0]then none else bif iZ 61 60 96 c then none else _:Option Res)=_
  rw[(AF h).1,(AF h).2.2,nn 34 (by decide+kernel),nn 38 (by decide+kernel),nn 39 (by decide+kernel),nn 62 (by decide+kernel),nn 0 (by decide+kernel)]
  rfl
 exact⟨k+1,q,bB (out:=[]) hs rfl rfl r,T⟩
theorem WZ {w sg:Nm}{due:List Nm}(gn:sg≠[])(hg:sg.length≤1000)(s:Sem 4 (w++bT 4) sg due):XV 4 (eM 4 w) sg due:=by
 have key:∃ k q,run k 556 (.at_ []) (w++bT 4)=some q∧Tl q [] due [sg] (1+due.length):=by
  generalize w++bT 4=x at s
  cases s with
  |nil=>exact absurd rfl gn
  |chr h s'=>exact RO h (sK (by decide) (by decide) _ (A7 _) s' _ (by rw[Nat.add_comm];exact hg))
  |lt h=>cases h
  |amp h hr s'=>
   obtain⟨k,q,r,T⟩:=sK (by decide) (by decide) _ (A7 _) (.amp h hr s') [] (by rw[List.length_nil,Nat.zero_add];exact hg)
   exact⟨k+1,q,bB (out:=[]) (l:=38::_) rfl rfl rfl r,T⟩
 obtain⟨k,q,r,T⟩:=key
 exact⟨_,q,xE r,T⟩
theorem Wa {p:Nat}{w sg:Nm}{due:List Nm}(hp:1<p)(h5:p<5)(gn:p=4→sg≠[])(hg:sg.length≤1000)(s:Sem p (w++bT p) sg due):XV p (eM p w) sg due:=by
 rcases Nat.lt_or_ge p 4 with q|q
 ·exact WY (by lia) (sK hp h5 _ (A7 _) s [] (by rw[List.length_nil,Nat.zero_add];exact hg))
 ·obtain rfl:p=4:=Nat.le_antisymm (Nat.le_of_lt_succ h5) q
  exact WZ (gn rfl) hg s
theorem Wb {p:Nat}{x sg:Nm}{due:List Nm}(hp:p<2)(h1:sg.length≤90000)(h2:x.length+due.length≤90000)(r:Go p .non x sg due):∃ b k q,run k (jI p) (.dead b .non) x=some q∧Lim a0 q∧(a0.toks q).fs=due∧(p<2→(a0.toks q).got=sg∧(a0.toks q).ts=[])∧(2≤p→(a0.toks q).got=[]∧(a0.toks q).ts=[sg]):=
 r.elim λk r=>r.elim λq r=>⟨true,k,q,r.1,r.2.lim h1 h2,r.2.e a0,λ_=>⟨r.2.g a0,r.2.t a0⟩,λh=>absurd hp (Nat.not_lt.mpr h)⟩
theorem We {p:Nat}{x sg:Nm}{due:List Nm}(hp:2≤p)(h2:1+due.length≤90000)(r:XV p x sg due):∃ b k q,run k (jI p) (.dead b .non) x=some q∧Lim a0 q∧(a0.toks q).fs=due∧(p<2→(a0.toks q).got=sg∧(a0.toks q).ts=[])∧(2≤p→(a0.toks q).got=[]∧(a0.toks q).ts=[sg]):=
 r.elim λk r=>r.elim λq r=>⟨false,k,q,r.1,r.2.lim (Nat.zero_le _) h2,r.2.e a0,λh=>absurd h (Nat.not_lt.mpr hp),λ_=>⟨r.2.g a0,r.2.t a0⟩⟩
theorem ZH {p:Nat}{w:Nm}(hp:p<2):eM p w=w++bT p:=by rcases two hp with rfl|rfl <;>rfl
theorem Wf {ms:List Int}(h:ms≠[]):hV ms≠[]:=by
 cases ms with
 |nil=>exact absurd rfl h
 |cons n t=>exact λq=>RN (fO n) (List.append_eq_nil_iff.mp q).1
theorem RQ {ms:List Int}(hm:ms.length≤10){p:Nat}(hp:p<5)(h4:p=4→ms≠[]):
  PlainL ms p (b8 p ms).1 (b8 p ms).2 (eM p (b8 p ms).1) (hV ms):=by
 refine GL hm hp ?_
 have s:=AD hp ms
 have hl:=mW p ms
 have hd:=AG p ms
 have hg:=sF ms
 have ht:=oV (p:=p) (w:=(b8 p ms).1) hp
 rcases Nat.lt_or_ge p 2 with q2|q2
 ·refine Wb q2 (by lia) (by lia) ?_
  rw[ZH q2]
  exact LQ q2 _ (A7 _) s
 ·exact We q2 (by lia) (Wa q2 hp (λe=>Wf (h4 e)) (by lia) s)
theorem Gu {ms:List Int}(h:bQ ms=4):ms≠[]:=λe=>by rw[e]at h;cases h
theorem Gv {z:bS}(G:GenD z.K 268 gN gI.b)(R:RplOk z.K){ns:List Int}(hn:ns.length≤1000):CallOk z.c 14 839 [.dat (.lst (aQ ns))] [] (.dat (.boo true)) []:=
 WM G R (λms hm=>RQ hm (by
  obtain⟨k,hk,lk⟩:=bM ((ms.length:Int)+(ms.take 1).sum) 5 (by decide)
  unfold bQ
  rw[show Int.fmod ((ms.length:Int)+(ms.take 1).sum) 5=(k:Int)from hk]
  exact lk) Gu) hn
end
section
noncomputable abbrev KK (P:Params)(K2:Frag):Frag:=YN P++K2
noncomputable def XW:V→Value
 |.dat (.boo b)=>.bool b
 |.dat (.int i)=>.int i 740
 |_=>.none
noncomputable def ZI:V→Bool
 |.dat .non=>true
 |.dat (.boo _)=>true
 |.dat (.int _)=>true
 |_=>false
theorem Wg {P:Params}{W:Wd}{v:V}(h:ZI v=true):VR P W v (XW v):=by
 cases v with
 |dat d=>cases d with
  |non=>rfl
  |boo _=>rfl
  |int _=>exact .mk 740
  |_=>cases h
 |_=>cases h
theorem Gw {P:Params}{W:Wd}:∀ {ds:List V},ds.all ZI=true→VRs P W ds (ds.map XW)
 | [],_=>rfl
 |_::_,h=>have q:=A0 h;.mk (Wg q.1) (Gw q.2)
noncomputable def lS (x:Pl):Fn:=iM iO x.2.1 x.2.2
structure FV where
 body:FuncBody
 clo:List (Str×Addr)
 glob:Addr
 blt:Addr
 co:Bool
 gen:Bool
 kind:ScopeKind
 names:aH
 cells:List Nm
 code:Value
 qual:Str
 kinds:List (Option NameKind)
 pars:List Nm
noncomputable def RU (x:Pl):Option FV:=(jB x).map λfd=>⟨fd.body,fd.closure,fd.globals,fd.builtins,fd.scope.isCoroutine,fd.scope.isGenerator,fd.scope.kind,fd.scope.names,cS (lS x).names,fd.code,fd.qualname,(lS x).params.map (λy=>(lS x).names.lookup (st y)),fd.params.args.map (λy=>y.arg.cps.toList)⟩
noncomputable def Wh (g:Bool)(x:Pl):Option FV:=some ⟨.stmts (lS x).body,[],mainGlobals,builtinsNs,false,g,.function,(lS x).names,(lS x).cells,.ref (x.1-1),(qE x.2.1 iO.main.body).2,(lS x).params.map (λy=>some (match aO y (lS x).cells with|true=>.cell|false=>.local)),(lS x).params⟩
noncomputable def Gx:Pl:=(Aw.1,Aw.2,[])
theorem RV:rF.map RU=rF.map (Wh false):=by kernel_rfl
theorem xF:RU Gx=Wh true Gx:=by kernel_rfl
theorem Wj:(rF.all λx=>x.2.2.all ZI&&Nat.ble (lS x).params.length 7)=true:=by kernel_rfl
noncomputable def Wk (q:Str):List Value→Bool
 |_::.str n _::_=>n==q
 |_=>false
theorem ZJ {q:Str}{l:List Value}(h:Zg l=some q):Wk q l=true:=by
 cases l with
 |nil=>cases h
 |cons a r=>cases r with
  |nil=>cases h
  |cons b r=>cases b with
   |str n t=>cases h;exact beq_self_eq_true _
   |_=>cases h
theorem LY {K:Frag}{c:Nat}{q:Str}(h:rH K c=some q):codeIn K (.ref c) q=true:=by
 have g:codeIn K (.ref c) q=(match K.lookup c with|some ⟨_,_,.fields vs,_⟩=>(match vs.toList with|_::.str n _::_=>n==q|_=>false)|_=>false):=rfl
 unfold rH at h
 rw[g]
 cases e:K.lookup c with
 |none=>rw[e]at h;cases h
 |some o=>
  rw[e]at h
  obtain⟨_,_,d,_⟩:=o
  cases d with
  |fields vs=>
   show Wk q vs.toList=true
   exact ZJ h
  |_=>cases h
section
variable {P:Params}{K2:Frag}
theorem Wl (P:Params)(K2:Frag):lA.map (λx=>(KK P K2).lookup x.1)=lA.map λx=>some (MR x).2:=by kernel_rfl
theorem LZ (P:Params)(K2:Frag):lA.map (λx=>rH (KK P K2) (x.1-1))=YO K2:=by kernel_rfl
noncomputable def Wm (k:Nat)(x:Pl):Bool:=Nat.ble k (lS x).params.length&&Nat.ble (lS x).params.length (k+x.2.2.length)
noncomputable def bdL (K:Frag)(S:Setting)(f:Nat→Value)(k:Nat)(x:Pl):Option (List (Str×Value)):=(jB x).bind λfd=>peek K S (bindArgs fd ⟨(List.range k).map f,[]⟩)
noncomputable def bdR (f:Nat→Value)(k:Nat)(x:Pl):Option (List (Str×Value)):=some (m3 (lS x).params ((List.range k).map f++(x.2.2.map XW).drop (x.2.2.length - ((lS x).params.length-k))))
theorem Lb (P:Params)(K2:Frag)(S:Setting)(f:Nat→Value):(List.range 8).map (λk=>(rF.filter (Wm k)).map (bdL (KK P K2) S f k))=(List.range 8).map λk=>(rF.filter (Wm k)).map (bdR f k):=by kernel_rfl
theorem Gy (P:Params)(K2:Frag)(S:Setting)(v:Value):(jB Gx).bind (λfd=>peek (KK P K2) S (bindArgs fd ⟨[v],[]⟩))=some [(st fK,v)]:=by kernel_rfl
theorem Ld (vals:List Value):vals=(List.range vals.length).map λi=>vals[i]?.getD .none:=by
 refine List.ext_getElem (by rw[List.length_map,List.length_range]) λi h1 h2=>?_
 rw[List.getElem_map,List.getElem_range,List.getElem?_eq_getElem h1];rfl
theorem AH {x:Pl}{fd:FuncData}(hx:x∈lA)(e:jB x=some fd):(KK P K2).lookup x.1=some ⟨.type "function",none,.func fd,#[]⟩:=by
 have h:=List.map_inj_left.mp (Wl P K2) x hx
 rw[h]
 show some (match jB x with|some fd=>_|none=>_)=_
 rw[e]
theorem Wn {x:Pl}{fd:FuncData}(hx:x∈lA)(e:jB x=some fd):fnIn (KK P K2) x.1=true:=by unfold fnIn;rw[AH hx e]
theorem NA {x:Pl}{g:Bool}(h:RU x=Wh g x):∃ fd,jB x=some fd:=by
 unfold RU at h
 cases e:jB x with
 |none=>rw[e]at h;cases h
 |some fd=>exact⟨fd,rfl⟩
theorem Gz {x:Pl}{g:Bool}{fd:FuncData}(h:RU x=Wh g x)(e:jB x=some fd):(⟨fd.body,fd.closure,fd.globals,fd.builtins,fd.scope.isCoroutine,fd.scope.isGenerator,fd.scope.kind,fd.scope.names,cS (lS x).names,fd.code,fd.qualname,(lS x).params.map (λy=>(lS x).names.lookup (st y)),fd.params.args.map (λy=>y.arg.cps.toList)⟩:FV)=
  ⟨.stmts (lS x).body,[],mainGlobals,builtinsNs,false,g,.function,(lS x).names,(lS x).cells,.ref (x.1-1),(qE x.2.1 iO.main.body).2,(lS x).params.map (λy=>some (match aO y (lS x).cells with|true=>.cell|false=>.local)),(lS x).params⟩:=by
 unfold RU at h
 rw[e]at h
 exact A9 h
noncomputable abbrev uR (K2:Frag):Prop:=YO K2=lA.map λx=>some (qE x.2.1 iO.main.body).2
theorem AI {x:Pl}{fd:FuncData}{g:Bool}(hc:uR K2)(hx:x∈lA)(h:RU x=Wh g x)(e:jB x=some fd):codeIn (KK P K2) fd.code fd.qualname=true:=by
 have v:=Gz h e
 rw[show fd.code=_ from congrArg FV.code v,show fd.qualname=_ from congrArg FV.qual v]
 exact LY (List.map_inj_left.mp ((LZ P K2).trans hc) x hx)
theorem Wo (hc:uR K2){x:Pl}(hx:x∈rF):FnD P (KK P K2) x.1 (lS x):=by
 have hg:x∈lA:=.tail _ hx
 have h:=List.map_inj_left.mp RV x hx
 obtain⟨fd,e⟩:=NA h
 have v:=Gz h e
 have b:=A0 (List.all_eq_true.mp Wj x hx)
 have hd:(lS x).dflt=x.2.2:=by
  unfold lS iM
  unfold jB at e
  cases q:Dh x.2.1 iO.main.body with
  |none=>rw[q]at e;cases e
  |some y=>rfl
 refine .mk _ fd (AH hg e) rfl (Wn hg e) ⟨AI hc hg h e,congrArg FV.body v,congrArg FV.clo v,congrArg FV.glob v,congrArg FV.blt v,congrArg FV.co v,congrArg FV.gen v,congrArg FV.kind v,congrArg FV.names v,congrArg FV.cells v,congrArg FV.pars v,List.map_inj_left.mp (congrArg FV.kinds v)⟩ (x.2.2.map XW) (by rw[hd];exact Gw b.1) ?_
 rw[hd]
 intro s vals KI h1 h2
 have lt:vals.length<8:=Nat.lt_succ_of_le (A5 h1 (A3 b.2))
 refine λM A E Q q=>(Looks.of_peek (M:=M) KI ?_).here q
 have w:=List.map_inj_left.mp (List.map_inj_left.mp (Lb P K2 ⟨M.prog,M.w.params⟩ λi=>vals[i]?.getD .none) vals.length (List.mem_range.mpr lt)) x (List.mem_filter.mpr ⟨hx,Bool.and_eq_true_iff.mpr ⟨A4 h1,A4 h2⟩⟩)
 unfold bdL bdR at w
 rw[e,← Ld]at w
 exact w
theorem RW (hc:uR K2):∀ a F,(a,F)∈JG→FnD P (KK P K2) a F:=λa F m=>by
 obtain⟨x,hx,q⟩:=List.mem_map.mp m
 cases q
 exact Wo hc hx
theorem HA:gN.lookup (st fK)=some .local:=by kernel_rfl
theorem Bb:cS gN=[]:=by kernel_rfl
theorem HB:(lS Gx).body=gI.b:=by kernel_rfl
theorem RY (hc:uR K2):GenD (KK P K2) 268 gN gI.b:=by
 have hx:Gx∈lA:=.head _
 obtain⟨fd,e⟩:=NA xF
 have v:=Gz xF e
 refine .mk _ fd (AH hx e) rfl ⟨AI hc hx xF e,(congrArg FV.body v).trans (congrArg FuncBody.stmts HB),congrArg FV.clo v,congrArg FV.glob v,congrArg FV.blt v,congrArg FV.co v,congrArg FV.gen v,congrArg FV.kind v,congrArg FV.names v,Bb,HA⟩ λs v KI=>λM A E Q q=>(Looks.of_peek (M:=M) KI ?_).here q
 have w:=Gy P K2 ⟨M.prog,M.w.params⟩ v
 rw[e]at w
 exact w
end
end
section
structure MV where
 find:Option (Option Value)
 type:Option Value
 get:Option (Option Value)
 takes:Option Bool
 copied:Bool
structure CV where
 get:Bool
 dict:Bool
 over:Bool
 set:Option (Option Value)
 makes:Bool
 keep:Bool
 fields:List (Option (Option Value))
 meths:List MV
 consts:List MV
noncomputable def cU:V→Value
 |.dat (.int i)=>.int i 624
 |_=>.none
noncomputable def clL (K:Frag)(c:Cl):CV:=⟨plainGet K c.adr Str.empty,hasDictIn K c.adr,plainOver K c.adr,findIn K (.ref c.adr) "__setattr__",makesIn K c.adr,keepIn K (.ref c.adr),c.fields.map λx=>findIn K (.ref c.adr) (st x),
 c.meths.map λm=>⟨findIn K (.ref c.adr) (st m.1),typeIn K (.ref m.2),specialIn K (.ref m.2) "__get__",takesIn K (.ref m.2),copiedNames.contains (st m.1)⟩,c.consts.map λx=>⟨findIn K (.ref c.adr) (st x.1),none,specialIn K (cU x.2) "__get__",none,copiedNames.contains (st x.1)⟩⟩
noncomputable def ZK (c:Cl):CV:=⟨true,true,true,some (some (.builtin "object.__setattr__")),true,true,c.fields.map λ_=>some none,
 c.meths.map λm=>⟨some (some (.ref m.2)),some (.type "function"),some (some (.builtin "function.__get__")),some false,false⟩,c.consts.map λx=>⟨some (some (cU x.2)),none,some none,none,false⟩⟩
theorem RZ (P:Params)(K2:Frag):mQ.cls.map (clL (KK P K2))=mQ.cls.map ZK:=by kernel_rfl
theorem Bc:(mQ.cls.map λc=>c.consts.map (·.2)).flatten=[.dat (.int 10240)]:=by kernel_rfl
theorem jF {α:Type}{x:Nm}{v:α}:∀ {l:List (Nm×α)},lk l x=some v→(x,v)∈l
 | [],h=>nomatch h
 |(y,u)::l,h=>(qX h).elim (λq=>q.1▸q.2 ▸ .head _) λq=>.tail _ (jF q.2)
section
variable {P:Params}{K2:Frag}
theorem Wp {c:Cl}(hc:c∈mQ.cls):ClOk P (KK P K2) c.adr c:=by
 have h:=List.map_inj_left.mp (RZ P K2) c hc
 refine⟨congrArg CV.get h,congrArg CV.dict h,congrArg CV.over h,congrArg CV.set h,congrArg CV.makes h,congrArg CV.keep h,λx hx=>?_,λm f hm=>?_,λx v hx=>?_⟩
 ·obtain⟨y,hy,e⟩:=List.any_eq_true.mp hx
  rw[← b9 e]
  exact List.map_inj_left.mp (congrArg CV.fields h) y hy
 ·have q:=List.map_inj_left.mp (congrArg CV.meths h) _ (jF hm)
  exact⟨congrArg MV.find q,congrArg MV.type q,congrArg MV.get q,congrArg MV.takes q,congrArg MV.copied q⟩
 ·have hm:=jF hx
  have q:=List.map_inj_left.mp (congrArg CV.consts h) _ hm
  have e:v∈(mQ.cls.map λc=>c.consts.map (·.2)).flatten:=List.mem_flatten.mpr ⟨_,List.mem_map.mpr ⟨c,hc,rfl⟩,List.mem_map.mpr ⟨_,hm,rfl⟩⟩
  rw[Bc]at e
  cases List.mem_singleton.mp e
  exact .mk _ (congrArg MV.find q) (congrArg MV.get q) rfl (congrArg MV.copied q) (.mk 624)
noncomputable def nsE (K:Frag)(a:Nat):Array DictEntry:=match K.lookup a with
 |some ⟨_,_,.dict en _,_⟩=>en
 |_=>#[]
theorem AJ {en:Array DictEntry}(h:en.toList.all tK=true):StrKeys en:=λe m=>by
 have q:=List.all_eq_true.mp h e (Array.mem_toList_iff.mpr m)
 unfold tK at q
 cases k:e.key with
 |str n t=>exact⟨n,t,rfl⟩
 |_=>rw[k]at q;cases q
theorem lT {en:Array DictEntry}{n:Str}{u:Option Value}(h:lU n en.toList=u):nsFind en n=u:=(m1 n en.toList).trans h
noncomputable def Wq {R:List Value→Prop}(K:Frag)(c:String)(f:(vs:List Value)→Mb (R vs))(a:Nat):Mb (IsSeq (W0 K).fz c R (.ref a)):=match e:K.lookup a with
 |some ⟨.type d,none,.seq ⟨vs⟩ n,⟨[]⟩⟩=>match String.decEq d c with
  |.isTrue h=>(f vs).tkn λr=>.ok (.mk a vs n (h▸e) r)
  |.isFalse _=>.no
 |_=>.no
mutual
noncomputable def dM (P:Params)(K:Frag):(d:D)→(v:Value)→Mb (DR P (W0 K).fz d v)
 |.non,.none=>.ok rfl
 |.int i,.int j t=>.gvn (gU i j) λe=>.ok (eq_of_beq ((bL i j).trans e) ▸ .mk t)
 |.str x,.str s t=>.gvn (nb s.cps.toList x) λe=>.ok (b9 e ▸ .mk t)
 |.tup ds,.ref a=>Wq K "tuple" (ZL P K ds) a
 |.lst ds,.ref a=>Wq K "list" (ZL P K ds) a
 |_,_=>.no
noncomputable def ZL (P:Params)(K:Frag):(ds:List D)→(vs:List Value)→Mb (DRs P (W0 K).fz ds vs)
 | [],[]=>.ok rfl
 |d::ds,v::vs=>(dM P K d v).tkn λa=>(ZL P K ds vs).tkn λr=>.ok (.mk a r)
 |_,_=>.no
end
noncomputable def vM (P:Params)(K:Frag):(v:V)→(u:Value)→Mb (VR P (W0 K) v u)
 |.top a,.ref b=>.gvn (Nat.beq b a) λe=>.ok (congrArg Value.ref (B0 e))
 |.dat d,u=>dM P K d u
 |_,_=>.no
noncomputable def uS:V→Bool
 |.dat (.dct _)=>true
 |_=>false
noncomputable def XX (e:DictEntry):Str×PySem.Tok×Value:=match e.key with
 |.str s t=>(s,t,e.val)
 |_=>(st [],0,.none)
noncomputable def kE (P:Params)(s:Str×PySem.Tok×Value):DictEntry:=⟨PyData.keyHash P s.1,.str s.1 s.2.1,s.2.2⟩
theorem o5 {P:Params}{R:Value→Prop}{x:Nm}{s:Str×PySem.Tok×Value}(h:s.1=st x)(r:R s.2.2):Ent P x R (kE P s):=.mk _ s.2.1 (congrArg (PyData.keyHash P) h) (congrArg (λu=>Value.str u s.2.1) h) r
noncomputable def ZM (P:Params)(K:Frag):(es:List (Nm×D))→(sp:List (Str×PySem.Tok×Value))→Mb (DRe P (W0 K).fz es (sp.map (kE P)))
 | [],[]=>.ok rfl
 |(x,d)::es,s::sp=>.gvn (nb s.1.cps.toList x) λe=>(dM P K d s.2.2).tkn λr=>(ZM P K es sp).tkn λq=>.ok (.mk (o5 (show s.1=st x from b9 e▸rfl) r) q)
 |_,_=>.no
noncomputable def Bj (P:Params)(a:Nat):List DictEntry:=(nsE (UG P) a).toList
theorem Wr (P:Params):[48,43,235].map (Bj P)=[48,43,235].map λa=>((Bj P a).map XX).map (kE P):=by kernel_rfl
theorem NB {P:Params}{a:Nat}(h:a∈[48,43,235]):Bj P a=((Bj P a).map XX).map (kE P):=List.map_inj_left.mp (Wr P) a h
theorem Le:mQ.glob.filter (λx=>uS x.2)=[(aAu,.dat aR),(aAq,.dat eY)]:=by kernel_rfl
noncomputable def dEs:D→List (Nm×D)
 |.dct es=>es
 |_=>[]
theorem ZN (P:Params)(K2:Frag):(ZM P (KK P K2) (dEs eY) ((Bj P 48).map XX)).yes=true:=by kernel_rfl
theorem ZO (P:Params)(K2:Frag):(ZM P (KK P K2) (dEs aR) ((Bj P 43).map XX)).yes=true:=by kernel_rfl
theorem Ws (P:Params)(K2:Frag):DR P (W0 (KK P K2)).fz eY (.ref 48):=.mk 48 (Bj P 48) 8 (by kernel_rfl) (by rw[NB (by decide)];exact Mb.out (ZN P K2))
theorem NC (P:Params)(K2:Frag):DR P (W0 (KK P K2)).fz aR (.ref 43):=.mk 43 (Bj P 43) 43 (by kernel_rfl) (by rw[NB (by decide)];exact Mb.out (ZO P K2))
theorem Ra (P:Params)(K2:Frag):(mQ.glob.all λx=>uS x.2||match lU (st x.1) (nsE (KK P K2) 3).toList with
 |some u=>(vM P (KK P K2) x.2 u).yes
 |none=>false)=true:=by kernel_rfl
theorem ND (P:Params)(K2:Frag):lU (st aAq) (nsE (KK P K2) 3).toList=some (.ref 48)∧lU (st aAu) (nsE (KK P K2) 3).toList=some (.ref 43):=⟨by kernel_rfl,by kernel_rfl⟩
theorem AK (P:Params)(K2:Frag):(KK P K2).lookup mainGlobals=some ⟨.type "dict",none,.dict (nsE (KK P K2) 3) 41,#[]⟩:=by kernel_rfl
theorem Rb (P:Params)(K2:Frag):(nsE (KK P K2) 3).toList.all tK=true:=by kernel_rfl
theorem Rc (P:Params)(K2:Frag):mQ.blts.map (λx=>lU (st x.1) (nsE (KK P K2) 3).toList)=mQ.blts.map λ_=>none:=by kernel_rfl
theorem Re (P:Params)(K2:Frag):(KK P K2).lookup builtinsNs=K2.lookup builtinsNs:=by kernel_rfl
noncomputable def ZP (P:Params)(K:Frag):(v:V)→Mb (VR P (W0 K) v (Az v))
 |.blt _=>.ok rfl
 |.typ _=>.ok rfl
 |_=>.no
theorem Wu (P:Params)(K:Frag):(mQ.blts.all λx=>(ZP P K x.2).yes)=true:=by kernel_rfl
noncomputable abbrev Lg (K2:Frag):Prop:=Oy K2=(true,mQ.blts.map λx=>some (Az x.2))
theorem Rf (h:Lg K2):NsK (KK P K2) builtinsNs λes=>∀ x v,lk mQ.blts x=some v→∃ u,nsFind es (st x)=some u∧VR P (W0 (KK P K2)) v u:=by
 unfold Lg Oy at h
 cases e:K2.lookup builtinsNs with
 |none=>rw[e]at h;cases congrArg (·.1) h
 |some o=>
  rw[e]at h
  obtain⟨c,d,dt,sl⟩:=o
  cases dt with
  |dict en n=>
   replace h:(en.toList.all tK,mQ.blts.map λx=>lU (st x.1) en.toList)=(true,mQ.blts.map λx=>some (Az x.2)):=h
   have h2:mQ.blts.map (λx=>lU (st x.1) en.toList)=mQ.blts.map λx=>some (Az x.2):=congrArg (·.2) h
   exact .mk _ en n ((Re P K2).trans e) rfl (AJ (congrArg (·.1) h)) λx v hx=>have q:lU (st x) en.toList=some (Az v):=List.map_inj_left.mp h2 (x,v) (jF hx);⟨_,lT q,Mb.out (List.all_eq_true.mp (Wu P (KK P K2)) _ (jF hx))⟩
  |_=>cases congrArg (·.1) h
theorem Rg (P:Params)(K2:Frag):(KK P K2).lookup cStatics=some ⟨.none,none,.dict #[] 0,#[]⟩:=by kernel_rfl
theorem Lh (P:Params)(K2:Frag):ModsOk (KK P K2):=.mk (ke P "builtins" 162 (.ref 4)) [ke P "__main__" 163 (.ref 5)] 2 162 (by kernel_rfl) (by kernel_rfl)
noncomputable def AM:Pl:=(283,[21,3],[.dat .non,.dat (.boo false)])
theorem Wv:AM∈rF:=f8 (by kernel_rfl)
theorem AN:(jB AM).map (λfd=>fd.params.args.map λy=>y.arg.cps.toList)=some [aAy,aAi,aAh]:=by kernel_rfl
theorem Li (P:Params)(K2:Frag)(S:Setting)(v a b:Value):(jB AM).bind (λfd=>peek (KK P K2) S (bindArgs fd ⟨[v],[(st aAi,a),(st aAh,b)]⟩))=some [(st aAy,v),(st aAi,a),(st aAh,b)]:=by kernel_rfl
theorem Lj {α:Type}{us:List α}(h:us.length=2):∃ a b,us=[a,b]:=by
 cases us with
 |nil=>cases h
 |cons a r=>cases r with
  |nil=>cases h
  |cons b r=>cases r with
   |nil=>exact⟨a,b,rfl⟩
   |cons _ _=>cases h
theorem Rh:∀ k∈mQ.kws,KwOk (KK P K2) k.1 k.2.1 k.2.2:=λk hk=>by
 cases List.mem_singleton.mp (hk:k∈[_])
 cases e:jB AM with
 |none=>have:=AN;rw[e]at this;cases this
 |some fd=>
  have p:=AN
  rw[e]at p
  refine .mk _ fd (AH (.tail _ Wv) e) rfl (A9 p) λs v us KI l=>λM A E Q q=>(Looks.of_peek (M:=M) KI ?_).here q
  obtain⟨a,b,rfl⟩:=Lj l
  have w:=Li P K2 ⟨M.prog,M.w.params⟩ v a b
  rw[e]at w
  exact w
theorem Ri (P:Params)(K2:Frag):(dM P (KK P K2) fS (.ref 243)).yes=true:=by kernel_rfl
theorem Ww (P:Params)(K2:Frag):(dM P (KK P K2) (.tup [.int 0,.int 43]) (.ref 246)).yes=true:=by kernel_rfl
theorem Wx (P:Params)(K2:Frag):(dM P (KK P K2) (.str []) (.str (Str.ofString "") 835)).yes=true:=by kernel_rfl
noncomputable def trE (P:Params):List DictEntry:=[kE P (st aA1,832,.ref 43),kE P (st aAz,834,.ref 243),kE P (st aAo,837,.str (Str.ofString "") 835),kE P (st aAk,842,.ref 246)]
theorem Lk (P:Params)(K2:Frag):∀ t∈mQ.tops,TiOk P (KK P K2) t:=λt ht=>by
 cases List.mem_singleton.mp (ht:t∈[_])
 exact .mk (trE P) 4 (.mk (o5 rfl (NC P K2)) (.mk (o5 rfl (Mb.out (Ri P K2))) (.mk (o5 rfl (Mb.out (Wx P K2))) (.mk (o5 rfl (Mb.out (Ww P K2))) rfl)))) (by kernel_rfl) (by kernel_rfl)
noncomputable def XY (e:DictEntry):Int×PySem.Tok×Value:=match e.key with
 |.int i t=>(i,t,e.val)
 |_=>(0,0,.none)
noncomputable def kI (s:Int×PySem.Tok×Value):DictEntry:=⟨hashInt s.1,.int s.1 s.2.1,s.2.2⟩
theorem Rj (P:Params)(K2:Frag):(KK P K2).lookup 46=some ⟨.type "dict",none,.dict (((Bj P 46).map XY).map kI).toArray 34,#[]⟩:=by kernel_rfl
theorem Rk (P:Params):((Bj P 46).map XY).map (·.1)=(0:Int)::13::(List.range 32).map λi=>((128+i:Nat):Int):=by kernel_rfl
theorem Lm {v:Int}:∀ L:List (Int×PySem.Tok×Value),v ∉ L.map (·.1)→findBy Value.isInt (L.map kI).toArray v=none:=λL h=>by
 unfold findBy
 rw[List.find?_toArray,List.find?_eq_none.mpr λe m=>?_]
 ·rfl
 ·obtain⟨s,ms,rfl⟩:=List.mem_map.mp m
  show ¬ (s.1==v)=true
  exact λq=>h (List.mem_map.mpr ⟨s,ms,beq_iff_eq.mp q⟩)
theorem Rl (P:Params)(v:Nat)(hv:mR v)(h13:v≠13):findBy Value.isInt (((Bj P 46).map XY).map kI).toArray (v:Int)=none:=by
 refine Lm _ ?_
 rw[Rk]
 intro m
 have nr:∀ n,n=v→n≠0∧(n<128∨160≤n):=λn e=>by
  subst e
  rcases gA hv with rfl|rfl|h|h
  ·exact⟨by decide,.inl (by decide)⟩
  ·exact absurd rfl h13
  ·exact⟨by lia,.inl (by lia)⟩
  ·have l:=h.lo
   exact⟨by lia,.inr l⟩
 rcases List.mem_cons.mp m with e|m
 ·exact(nr v rfl).1 (Int.ofNat.inj e)
 ·rcases List.mem_cons.mp m with e|m
  ·exact h13 (Int.ofNat.inj e)
  ·obtain⟨i,mi,e⟩:=List.mem_map.mp m
   have l:=List.mem_range.mp mi
   have q:=nr _ (Int.ofNat.inj e)
   lia
theorem Rm (P:Params)(K2:Frag):RplOk (KK P K2):=.mk _ (findBy Value.isInt (((Bj P 46).map XY).map kI).toArray) (Rj P K2) (λh g=>⟨_,_,34,g,rfl,rfl,λe m=>by
 obtain⟨s,_,q⟩:=List.mem_map.mp (Array.mem_toList_iff.mpr m)
 exact⟨s.1,s.2.1,q▸rfl,q▸rfl⟩,λ_=>rfl⟩) (Rl P)
theorem Rn (P:Params)(K2:Frag):(KK P K2).lookup sL=some ⟨.type "frame",none,.dict #[ke P "self" 829 (.ref 236),ke P "data" 830 (.ref 43)] 2,#[]⟩:=by kernel_rfl
theorem Ln (h:Lg K2):Top P (KK P K2) mQ:=⟨⟨_,Rn P K2⟩,Lh P K2,Rh,λ_ hc=>Wp hc,Lk P K2,.mk _ _ 41 (AK P K2) rfl (AJ (Rb P K2)) ⟨λx v hx=>by
  have m:=jF hx
  cases d:uS v with
  |true=>
   have q:(x,v)∈mQ.glob.filter (λx=>uS x.2):=List.mem_filter.mpr ⟨m,d⟩
   rw[Le]at q
   cases q with
   |head=>exact⟨_,lT (ND P K2).2,NC P K2⟩
   |tail _ q=>
    cases List.mem_singleton.mp q
    exact⟨_,lT (ND P K2).1,Ws P K2⟩
  |false=>
   have q:(uS v||match lU (st x) (nsE (KK P K2) 3).toList with|some u=>(vM P (KK P K2) v u).yes|none=>false)=true:=List.all_eq_true.mp (Ra P K2) _ m
   rw[d]at q
   cases e:lU (st x) (nsE (KK P K2) 3).toList with
   |none=>rw[e]at q;cases q
   |some u=>rw[e]at q;exact⟨u,lT e,Mb.out q⟩,λx v hx=>have q:lU (st x) _=none:=List.map_inj_left.mp (Rc P K2) (x,v) (jF hx);lT q⟩,Rf h,.mk _ _ 0 (Rg P K2) rfl (λ_ m=>nomatch Array.mem_toList_iff.mpr m) rfl⟩
end
end
section
theorem uT {R:WRecords}:∀ {xs:List WData},WShape.hasItems R xs .int=true→∃ ns:List Int,xs=ns.map WData.int
 | [],_=>⟨[],rfl⟩
 |x::xs,h=>by
  have h:(WShape.has R x .int&&WShape.hasItems R xs .int)=true:=h
  have q:=A0 h
  obtain⟨ns,rfl⟩:=uT q.2
  cases x with
  |int i=>exact⟨i::ns,rfl⟩
  |_=>exact(A8 q.1).elim
theorem HC {d:WData}(h:WShape.has [] d (.list .int)=true):∃ ns:List Int,d=.list (ns.map WData.int):=by
 cases d with
 |list xs=>
  have h:(WShape.hasItems [] xs .int||false)=true:=h
  rw[Bool.or_false]at h
  exact(uT h).elim λns e=>⟨ns,congrArg WData.list e⟩
 |_=>exact(A8 h).elim
noncomputable def ZQ (b:Bool):Bool:=WTm.holds [] (.and (.not (.lit (.bool b))) (.lit (.bool true))) {args:=[]}
theorem HD (ns:List Int):(PySem.Challenge.rw_te0044_02.pre).holds [] {args:=[.list (ns.map WData.int)]}=ZQ (decide ((63:Int) < ((ns.map WData.int).length:Int))):=by kernel_rfl
theorem HE {args:List WData}(h:PySem.Challenge.rw_te0044_02.row.toRowW.claim.pre args=true):∃ ns:List Int,args=[.list (ns.map WData.int)]∧ns.length≤63:=by
 obtain⟨h1,h2⟩:=pre_splitW h
 obtain⟨d,r,rfl,h3,h4⟩:=hasAllW_cons (R:=[]) (e:=.list .int) (es:=[]) h1
 obtain rfl:=hasAllW_nil h4
 obtain⟨ns,rfl⟩:=HC h3
 refine⟨ns,rfl,Nat.le_of_not_lt λq=>?_⟩
 have h2:(PySem.Challenge.rw_te0044_02.pre).holds [] {args:=[.list (ns.map WData.int)]}=true:=h2
 have e:(63:Int) < (ns.length:Int):=Int.ofNat_lt.mpr q
 rw[HD,List.length_map,decide_eq_true e]at h2
 exact A8 h2
theorem qR {P:Params}{h:Heap}{fz:Addr→Option Obj}:∀ {ns:List Int} {vs:List Value},WellAll P h vs (ns.map WData.int)→DRs P fz (aQ ns) vs
 | [],vs,x=>by cases x;rfl
 |n::ns,vs,x=>by
  obtain⟨v,vs',rfl,y,z⟩:=wellAll_cons_inv x
  exact .mk (by cases y;exact .mk _) (qR z)
theorem jG:∀ ns:List Int,ofPys (ns.map PyData.int)=ns.map WData.int
 | []=>by simp[ofPys]
 |n::ns=>by simp[ofPys,ofPy,jG ns]
theorem Lp {R:WRecords}{w:World}{s₀ s₁:Shared}{ns:List Int}{a:Addr}{as:List Addr}(L:Laid R w s₀ s₁ [ofPy (PyData.list (ns.map PyData.int))] [.ref a] as)(nf:∀ b o,s₀.heap.get? b=some o→iQ b o=false){b:Addr}{o:Obj}(g:s₁.heap.get? b=some o):iQ b o=false:=by
 obtain⟨ord,_,e⟩:=L.laid
 simp only[ofPy,layAllW,layW]at e
 cases q:layAllW R (classAt s₀.heap) w.params ord (ofPys (List.map PyData.int ns)) s₀ with
 |none=>rw[q]at e;cases e
 |some r=>
  rw[q]at e
  have hh:=PySem.W.X.lay_ints ns s₀ r q
  simp only[Option.some.injEq,Prod.mk.injEq]at e
  rw[← e.2]at g
  by_cases k:b=r.2.heap.objs.size
  ·subst k
   rw[Heap.get?_push_size _ rfl]at g
   cases g;exact kP rfl
  ·refine nf b o ?_
   rw[← hh]
   have g:(r.2.heap.push _).get? b=some o:=g
   unfold Heap.get? at g ⊢
   unfold Heap.push at g
   rw[Array.getElem?_push,if_neg k]at g
   exact g
theorem xG {l:Nat}{o:O}(v:Lv [] l o):False:=nomatch v.e
theorem HF {W:Wd}{b:Addr}:¬ Live W [] b:=λ|.mk _ _ v _=>nomatch v.e
theorem HG {s₀ s₁:Shared}{n a:Nat}{args:List WData}{vals:List Value}{as:List Addr}{c:Cx}(hp:c.prog=iO)(L:Laid XE.row.toRowW.records c.w s₀ s₁ args vals as)(hpre:XE.row.toRowW.claim.pre args=true)(hwl:WellAll c.w.params s₁.heap vals args)
  (X:c.K.In s₁.heap)(nf:∀ b o,s₀.heap.get? b=some o→iQ b o=false)(ht:0<s₀.toks)(hn:n≤50)(walk:∀ ns:List Int,ns.length≤1000→CallOk c n a [.dat (.lst (aQ ns))] [] (.dat (.boo true)) []):
  wpAny (model iO c.w) callerA (PySem.call (.ref a) vals) (λv s'=>GoodWG XE.row.toRowW.claim (classAt s₀.heap) (ExcName.means s₀.heap) args s₁ (.ok (.ret v)) s')
   (λe s'=>GoodWG XE.row.toRowW.claim (classAt s₀.heap) (ExcName.means s₀.heap) args s₁ (.error e) s') s₁:=by
 refine enter_call ?_
 obtain⟨ns,rfl,hlen⟩:=HE hpre
 obtain⟨v,vs',rfl,y,z⟩:=wellAll_cons_inv hwl
 obtain rfl:vs'=[]:=by cases z;rfl
 obtain⟨sa,vs,rfl,hsa,hvs⟩:∃ sa vs,v=.ref sa∧s₁.heap.get? sa=some {cls:=.type "list",data:=.seq (List.toArray vs)}∧WellAll c.w.params s₁.heap vs (ns.map WData.int):=by
  cases y with
  |list h1 h2=>exact⟨_,_,rfl,h1,h2⟩
 let W:Wd:=⟨0,λ_=>0,λb=>if b=sa then some {cls:=.type "list",data:=.seq (List.toArray vs)}else c.K.lookup b⟩
 have le:∀ b o,c.K.lookup b=some o→W.fz b=some o:=λb o e=>by
  show(if b=sa then _ else _)=_
  by_cases q:b=sa
  ·subst q
   have:=X _ _ e
   rw[hsa]at this
   rw[if_pos rfl];exact this
  ·rw[if_neg q];exact e
 have nf1:∀ b o,s₁.heap.get? b=some o→iQ b o=false:=λb o e=>by
  have e0:[WData.list (ns.map WData.int)]=[ofPy (PyData.list (ns.map PyData.int))]:=by rw[ofPy,jG]
  have L':=L
  rw[e0]at L'
  exact Lp L' nf e
 have R:Rel c.w.params W [] s₁.heap:=⟨rfl,λ_ _ v=>(xG v).elim,λ_ _ v=>(xG v).elim,λ_ _ _ _ v=>(xG v).elim,λb o e=>by
  have e:(if b=sa then some {cls:=.type "list",data:=.seq (List.toArray vs)}else c.K.lookup b)=some o:=e
  by_cases q:b=sa
  ·rw[if_pos q]at e;rw[q,hsa];exact e
  ·rw[if_neg q]at e;exact X _ _ e,λb o e=>by
  have e:(if b=sa then some {cls:=.type "list",data:=.seq (List.toArray vs)}else c.K.lookup b)=some o:=e
  by_cases q:b=sa
  ·rw[if_pos q]at e;cases e;exact kP rfl
  ·rw[if_neg q]at e;exact nf1 _ _ (X _ _ e)⟩
 have ht1:0<s₁.toks:=by
  have e:[WData.list (ns.map WData.int)]=[ofPy (PyData.list (ns.map PyData.int))]:=by rw[ofPy,jG]
  have L':=L
  rw[e]at L'
  exact A6 ht (PySem.W.X.script_toks L' rfl)
 have c1:callerA.depth≤301:=by decide+kernel
 have c2:callerA.units≤4:=by decide+kernel
 have Z:At c n callerA W [] s₁:=⟨⟨rfl,by omega,by omega⟩,R,le,ht1,.mk [] rfl λ_ m=>absurd m List.not_mem_nil⟩
 have hv:VRs c.w.params W [.dat (.lst (aQ ns))] [.ref sa]:=.mk (.mk sa vs 0 (if_pos rfl) (qR hvs)) rfl
 have q:=(walk ns (by omega)).run callerA W s₁ _ _ .pos Z hv
 unfold Cx.M at q
 rw[hp]at q
 refine codeAny_mono q λr s' ⟨u,p⟩=>?_
 obtain⟨W',R',E',x⟩:=p
 cases(show u=.bool true from x)
 have no:∀ b,¬ Live W [] b:=λb=>HF
 refine⟨.inl ⟨.bool true,.bool true,[],rfl,λcls=>rfl,.bool _,?_,λ_=>⟨List.nodup_nil,λ_ h=>absurd h List.not_mem_nil⟩⟩,.of_keep λb o e=>((E'.e.at_ b o e).keep (no b)).eqm (nf1 b o e),E'.o,?_⟩
 ·show(WShape.has [] (.bool true) .bool&&(WTm.eq .res (.lit (.bool true))).holds [] {args:=[.list (ns.map WData.int)],res:=some (.bool true),after:=[]})=true
  kernel_rfl
 ·have g:=E'.g
  rw[L.gens]at g
  exact λy hy=>(Array.mem_iff_getElem?.mp hy).elim λi e=>g.bare i y (Nat.zero_le _) e
theorem Ro:(OpenRow.toRowW PySem.Challenge.rw_te0044_02.row).promised:=⟨[.list [.int 3]],by decide+kernel,by decide+kernel⟩
theorem Lq (as bs:List Nat)(s:Shared):k9 (as++bs) s=k9 as s++k9 bs s:=List.filterMap_append
theorem Rp (P:Params)(K2:Frag):lU PySem.Challenge.rw_te0044_02.row.name (nsE (KK P K2) 3).toList=some (.ref 839):=by kernel_rfl
noncomputable def o6:DefRec×List (Str×Expr):=(defOf MS PySem.Challenge.rw_te0044_02.row.name).getD (⟨st [],⟨[],[],none,[],[],none,[]⟩,[],default,pU⟩,[])
theorem Wy:defOf MS PySem.Challenge.rw_te0044_02.row.name=some (o6.1,o6.2):=by kernel_rfl
theorem Wz:PySem.Challenge.rw_te0044_02.row.prog.theDef PySem.Challenge.rw_te0044_02.row.name=some (o6.1.params,o6.1.body,o6.1.scope):=by kernel_rfl
theorem ZR:kwWritten? o6.1.params.kwonlyargs o6.1.params.kw_defaults=some o6.2:=by kernel_rfl
theorem ZS:o6.1.name=PySem.Challenge.rw_te0044_02.row.name:=by kernel_rfl
theorem Rq {s:Shared}(h:((k9 lB s).all λx=> !iQ x.1 x.2)=true)(hs:s.heap.objs.size≤900):∀ b o,s.heap.get? b=some o→iQ b o=false:=λb o e=>by
 have lt:b<900:=A6 (Heap.lt_size e) hs
 have m:(b,o)∈k9 lB s:=List.mem_filterMap.mpr ⟨b,List.mem_range.mpr lt,by rw[e];rfl⟩
 have:=List.all_eq_true.mp h _ m
 cases w:iQ b o with
 |false=>rfl
 |true=>rw[show iQ (b,o).1 (b,o).2=true from w]at this;cases this
theorem join02:PySem.Challenge.rw_te0044_02.Holds:=by
 refine holds_law PA λsaid=>?_
 refine holds_openX (r:=PySem.Challenge.rw_te0044_02.row) (q:=MS) (loose:=iC) (Xt:=λ_=>true) (XP:=λ_ _=>True) (Yf:=λs=>yU (k9 Du s) (k9 lB s) s.toks s.heap.objs.size) (Ya:=rI) (d:=o6.1) (kwd:=o6.2) (N:=20000) Oz (λ_ _=>trivial) (λ_ _ _ _ _=>trivial) Wy Wz ZR (λs _=>recFacts_of rfl) rfl said (by decide+kernel) ⟨rfl,rfl,rfl,rfl,rfl,by decide+kernel⟩ Ro ?_
 intro w s₀ s₁ mg mb G Y fa o pm cd doc dV kV ho hd hcd hD hmg hg args vals as L hpre hlay hrd hwl hlo
 have hK:k9 Du s₀=YN w.params:=congrArg (·.1) Y
 have hC:uR (k9 lB s₀):=congrArg (·.2.1) Y
 have hB:Lg (k9 lB s₀):=congrArg (·.2.2.1) Y
 have ht:0<s₀.toks:=A3 (congrArg (·.2.2.2.1) Y)
 have hF:=A0 (show((k9 lB s₀).all (λx=> !iQ x.1 x.2)&&Nat.ble s₀.heap.objs.size 900)=true from congrArg (·.2.2.2.2) Y)
 have X:(KK w.params (k9 lB s₀)).In s₁.heap:=λb o e=>by
  rw[KK,← hK,← Lq]at e
  exact L.keeps _ _ (Ov e)
 have hfa:fa=839:=by
  obtain⟨o',es',ep',b1,b2,b3,b4⟩:=G.T.g
  have e:=X _ _ (AK w.params (k9 lB s₀))
  rw[b1]at e
  cases e
  cases b2
  have y:=(b4 PySem.Challenge.rw_te0044_02.row.name).symm.trans (lT (Rp w.params (k9 lB s₀)))
  rw[ZS]at hmg
  exact Value.ref.inj (A9 (hmg.symm.trans y))
 subst hfa
 exact HG (n:=14) (c:=Zc.c (p:=iO) (G:=mQ) (tl:=JG) ⟨w,KK w.params (k9 lB s₀),Ln hB,RW hC⟩) rfl L hpre hwl X (Rq hF.1 (A3 hF.2)) ht (by decide) λns hn=>Gv (RY hC) (Rm _ _) hn
end
end Tk
theorem PySem.Challenge.cw_te0044_02_holds : PySem.Challenge.rw_te0044_02.Holds :=
  Tk.join02
